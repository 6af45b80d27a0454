import JvmDerived
import JvmDerived.Pilot.@@N@@Statement
import JvmDerived.Pilot.@@N@@Code
set_option linter.unusedVariables false
set_option linter.unusedSimpArgs false
namespace Jvm.RoadKit
open Sem ClassFile Op Lib Jvm.Stand Jvm.Free Jvm.LawKit
section OwnGo
variable {p : Program} {l : Launch} {e : Env} {R : Room} {s : State} {m : MethodId} {args : Array Value} {below : List Frame} {meth : Method} {c : Code} {T T' : State} {locs : List Loc} {cells slots : Nat} {tb : Tables} {P : State → Outcome → Prop} {g g' : JFrame} {Z : State} {a0 : Array Value} {h h' : Heap}
/-- from here the run goes on to an end that P says -/
def Go (tb : Tables) (e : Env) (below : List Frame) (P : State → Outcome → Prop) (T : State) (g : JFrame) : Prop :=
  ∃ u o, Steps tb e below (T.setTop g) u ∧ u.status = .running ∧ Ended u below o ∧ P u o
theorem Go.st (st : ∀ target, Steps tb e below (T'.setTop g') target → Steps tb e below (T.setTop g) target) (k : Go tb e below P T' g') : Go tb e below P T g := by
  obtain ⟨u, o, h1, h2⟩ := k
  exact ⟨u, o, st u h1, h2⟩
theorem Go.tr (st : Steps tb e below (T.setTop g) (T'.setTop g')) (k : Go tb e below P T' g') : Go tb e below P T g := Go.st (fun _ h => st.trans h) k
theorem Go.cast (q : g = g') (k : Go tb e below P T g') : Go tb e below P T g := q ▸ k
/-- the end of a body that interns nothing -/
def FinP (s : State) (Q : Option Value → Heap → List Loc → Prop) (K N : Nat) (u : State) (o : Outcome) : Prop := ∃ v L, o = .returned v ∧ Q v u.heap L ∧ FrameEnd s o u L K N
theorem Go.retN {Q : Option Value → Heap → List Loc → Prop} {K N : Nat} (X : Stand p l e R s m args below meth c T locs cells slots) (hx : p.tables.exec = Jvm.exec) (hlk : meth.locks = false) {pc : Nat} {Ls : Array Slot} {z : Int32} {t : FieldType} {rest : List Value} (hret : meth.sig.returnType = some t)
    (hn : narrow t (.int z) = .int z) (ht : t = .int ∨ t = .boolean ∨ t = .byte ∨ t = .char ∨ t = .short) (hd : decode c.code pc = .ok (.ireturn, 1)) (hK : cells ≤ K) (hN : slots ≤ N) (eT : T.heap = h) (hQ : Q (some (.int z)) h locs) : Go p.tables e below (FinP s Q K N) T (mkF m pc Ls (.int z :: rest)) := by
  obtain ⟨fs, hr, hrun, hended, hW, hsame⟩ := X.leave (v := some (.int z)) (fun h => by rw [hret] at h; cases h) hlk
  exact ⟨_, _, retOut X hx hret hn (Or.inl ⟨rfl, ht, z, rfl⟩) hd hr, hrun, hended, _, _, rfl, (by rw [show (T.setFrames fs).heap = h from eT]; exact hQ), ⟨_, rfl⟩, hW, hsame.mono hK hN⟩
theorem Go.retL {Q : Option Value → Heap → List Loc → Prop} {K N : Nat} (X : Stand p l e R s m args below meth c T locs cells slots) (hx : p.tables.exec = Jvm.exec) (hlk : meth.locks = false) {pc : Nat} {Ls : Array Slot} {z : Int64} {rest : List Value} (hret : meth.sig.returnType = some .long)
    (hd : decode c.code pc = .ok (.lreturn, 1)) (hK : cells ≤ K) (hN : slots ≤ N) (eT : T.heap = h) (hQ : Q (some (.long z)) h locs) : Go p.tables e below (FinP s Q K N) T (mkF m pc Ls (.long z :: rest)) := by
  obtain ⟨fs, hr, hrun, hended, hW, hsame⟩ := X.leave (v := some (.long z)) (fun h => by rw [hret] at h; cases h) hlk
  exact ⟨_, _, retOut X hx hret rfl (Or.inr (Or.inl ⟨rfl, rfl, z, rfl⟩)) hd hr, hrun, hended, _, _, rfl, (by rw [show (T.setFrames fs).heap = h from eT]; exact hQ), ⟨_, rfl⟩, hW, hsame.mono hK hN⟩
theorem narrow_ref {t : FieldType} {w : Value} (ht : t.isReference = true) : narrow t w = w := by cases t <;> first | rfl | (cases w <;> rfl) | (simp [FieldType.isReference] at ht)
theorem Go.retA {Q : Option Value → Heap → List Loc → Prop} {K N : Nat} (X : Stand p l e R s m args below meth c T locs cells slots) (hx : p.tables.exec = Jvm.exec) (hlk : meth.locks = false) {pc : Nat} {Ls : Array Slot} {w : Value} {t : FieldType} {rest : List Value} (hret : meth.sig.returnType = some t)
    (ht : t.isReference = true) (hw : w.isRef = true) (hd : decode c.code pc = .ok (.areturn, 1)) (hK : cells ≤ K) (hN : slots ≤ N) (eT : T.heap = h) (hQ : Q (some w) h locs) : Go p.tables e below (FinP s Q K N) T (mkF m pc Ls (w :: rest)) := by
  obtain ⟨fs, hr, hrun, hended, hW, hsame⟩ := X.leave (v := some w) (fun h => by rw [hret] at h; cases h) hlk
  exact ⟨_, _, retOut X hx hret (narrow_ref ht) (Or.inr (Or.inr (Or.inr (Or.inr ⟨rfl, ht, hw⟩)))) hd hr, hrun, hended, _, _, rfl, (by rw [show (T.setFrames fs).heap = h from eT]; exact hQ), ⟨_, rfl⟩, hW, hsame.mono hK hN⟩
theorem Go.retV {Q : Option Value → Heap → List Loc → Prop} {K N : Nat} (X : Stand p l e R s m args below meth c T locs cells slots) (hx : p.tables.exec = Jvm.exec) (hlk : meth.locks = false) {pc : Nat} {Ls : Array Slot} (hret : meth.sig.returnType = none)
    (hd : decode c.code pc = .ok (.return_, 1)) (hK : cells ≤ K) (hN : slots ≤ N) (eT : T.heap = h) (hQ : Q none h locs) : Go p.tables e below (FinP s Q K N) T (mkF m pc Ls []) := by
  obtain ⟨fs, hr, hrun, hended, hW, hsame⟩ := X.leave (v := none) (fun _ => rfl) hlk
  exact ⟨_, _, X.returnOut hx hret hd hr, hrun, hended, _, _, rfl, (by rw [show (T.setFrames fs).heap = h from eT]; exact hQ), ⟨_, rfl⟩, hW, hsame.mono hK hN⟩
/-- a body's contract: called with as' at the heap h0 it returns as Q says -/
def Con (l : Launch) (Z : State) (y : MethodName) (bytes : ByteArray) (maxL : Nat) (ret : Option FieldType) (ws : List Cond) (rm : Room) (as' : Array Value) (h0 : Heap) (Q : Option Value → Heap → List Loc → Prop) : Prop :=
  MetFree l y (head1 (Cond.code y bytes maxL ret :: ws) rm) (fun a U => a = as' ∧ Z.Warmed39 U.vm ∧ U.heap = h0) (fun _ _ _ _ _ => True) (fun _ U o U' => ∃ v L, o = .returned v ∧ Q v U'.heap L ∧ FrameEnd U o U' L rm.cells rm.slots)
theorem Con.enter {y : MethodName} {bytes : ByteArray} {maxL : Nat} {ret : Option FieldType} {ws : List Cond} {rm : Room} {as' : Array Value} {h0 : Heap} {Q : Option Value → Heap → List Loc → Prop} (hp : plainFor y = true)
    (H : ∀ (p : Program) (e : Env) (s : State) (m : MethodId) (below : List Frame) (meth : Method) (c : Code) (s₁ : State), Stand p l e rm s m as' below meth c s₁ [] 0 0 → p.tables.exec = Jvm.exec → Z.Warmed39 s.vm → c.code = bytes → c.maxLocals = maxL → meth.sig.returnType = ret → meth.locks = false → s.vm.findClass y.cls = some m.cls → meth.name = y.name → s₁.heap = h0 →
      Go p.tables e below (FinP s Q rm.cells rm.slots) s₁ (entryFrame m as' maxL)) : Con l Z y bytes maxL ret ws rm as' h0 Q := by
  refine MetFree.of_bodySF hp hisR ?_
  intro p e s m args below meth c s₁ Bd hml0 hP hK
  obtain ⟨rfl, hZ, hh⟩ := hP
  exact H p e s m below meth c s₁ (Stand.of_body Bd) Bd.exec hZ Bd.bytes hml0 Bd.returns Bd.notSynchronized (findClass_of_methodNamed Bd.named) (name_of_methodNamed Bd.named Bd.method).1 (by rw [← hh, Bd.state]; rfl)
theorem Con.mono {y : MethodName} {bytes : ByteArray} {maxL : Nat} {ret : Option FieldType} {ws : List Cond} {rm : Room} {as' : Array Value} {h0 : Heap} {Q Q' : Option Value → Heap → List Loc → Prop} (C : Con l Z y bytes maxL ret ws rm as' h0 Q) (H : ∀ v h L, Q v h L → Q' v h L) : Con l Z y bytes maxL ret ws rm as' h0 Q' := by
  intro p e ha hc hk s m args below hf happ hP hK
  obtain ⟨n, o, h1, h2, h3, v, L, rfl, hq, hr⟩ := C p e ha hc hk s m args below hf happ hP hK
  exact ⟨n, _, h1, h2, h3, v, L, rfl, H _ _ _ hq, hr⟩
variable {y z : MethodName} {bytes : ByteArray} {maxL : Nat} {ret : Option FieldType} {rm : Room} {as' : Array Value} {Q : Option Value → Heap → List Loc → Prop} {W len : Nat} {own C owner : String} {index : Nat} {argsL rest : List Value}
/-- behind a call -/
theorem Go.back {vs : Array Value} {vm1 : Vm → Pt} {n : Nat} (H : ∃ (v : Option Value) (vm₁ : Vm) (B : Pt), s.WarmedH vm₁ ∧ Stand p l e R s m args below meth c B.U B.locs B.cells B.slots ∧ (∃ L, Q v B.U.heap L ∧ B.locs = locs ++ L ∧ B.cells = cells + rm.cells ∧ B.slots = slots + rm.slots) ∧
      Steps p.tables e below (T.setTop g) (B.U.setTop { g with pc := g.pc + n, stack := v.toList ++ rest }))
    (k : ∀ (v : Option Value) (T' : State) (h' : Heap) (L : List Loc), Stand p l e R s m args below meth c T' (locs ++ L) (cells + rm.cells) (slots + rm.slots) → T'.heap = h' → Q v h' L → Go p.tables e below P T' { g with pc := g.pc + n, stack := v.toList ++ rest }) : Go p.tables e below P T g := by
  obtain ⟨v, _, ⟨U, L1, k1, n1⟩, -, X', ⟨L, hQ, e1, e2, e3⟩, st⟩ := H
  have e1' : L1 = locs ++ L := e1
  have e2' : k1 = cells + rm.cells := e2
  have e3' : n1 = slots + rm.slots := e3
  subst e1' e2' e3'
  exact Go.tr st (k v U _ L X' rfl hQ)
theorem Go.callSt (X : Stand p l e R s m args below meth c T locs cells slots) (hx : p.tables.exec = Jvm.exec) (hZ : Z.Warmed39 s.vm) (hown : s.vm.findClass own = some m.cls) (eT : T.heap = h)
    (w1 : (Cond.methodLink own index y).before a0 Z = true) (w2 : (Cond.static y).before a0 Z = true) (w3 : (Cond.initialized y.cls).before a0 Z = true) (w4 : (Cond.code y bytes maxL ret).before a0 Z = true) (hy : y.cls ≠ "java/lang/invoke/MethodHandle" ∧ y.cls ≠ "java/lang/invoke/VarHandle")
    (hM : Con l Z y bytes maxL ret [] rm as' h Q) (ha : argsL.toArray = as') (hlen : ∀ sig, parseMethodDescriptor y.desc = some sig → argsL.length = sig.parameters.length) (hg : g.method = m) (hsize : g.locals.size = c.maxLocals) (hst : g.stack = argsL.reverse ++ rest)
    (hW : 2 * g.monitorRoom + (rest.map fun v => v.category).sum ≤ W) (hf : rm.frames + 1 ≤ R.frames) (hl : W + (maxL + 11) + rm.locals ≤ R.locals) (hc : cells + rm.cells ≤ R.cells) (hs : slots + rm.slots ≤ R.slots) (hd : decode c.code g.pc = .ok (.invokestatic index, 3))
    (k : ∀ (v : Option Value) (T' : State) (h' : Heap) (L : List Loc), Stand p l e R s m args below meth c T' (locs ++ L) (cells + rm.cells) (slots + rm.slots) → T'.heap = h' → Q v h' L → Go p.tables e below P T' { g with pc := g.pc + 3, stack := v.toList ++ rest }) : Go p.tables e below P T g := by
  obtain ⟨v, vm₁, B, q1, q2, q3, q4⟩ := Jvm.LawKit.callS X hx (y := y) (bytes := bytes) (maxL := maxL) (ret := ret) hown (mvT hZ w1) (mvT hZ w2) (mvT hZ w3) (mvT hZ w4) hy (backOf (W := W) (a0 := a0) hM hZ w4 w3 hf hl) (g := g) hg hsize (argsL := argsL) (rest := rest) hlen hst hW hd (fun _ _ => ⟨ha, eT, hc, hs⟩)
  exact Go.back (vs := as') (vm1 := fun _ => ⟨T, [], 0, 0⟩) ⟨v, vm₁, B, q1, q2, q3, q4 _ (Steps.refl _)⟩ k
theorem Go.callSp (X : Stand p l e R s m args below meth c T locs cells slots) (hx : p.tables.exec = Jvm.exec) (hZ : Z.Warmed39 s.vm) (hown : s.vm.findClass own = some m.cls) (eT : T.heap = h) (hy1 : y.name = "<init>")
    (w1 : (Cond.methodLink own index y).before a0 Z = true) (w2 : (Cond.instanceMethod y).before a0 Z = true) (w3 : (Cond.initialized y.cls).before a0 Z = true) (w4 : (Cond.code y bytes maxL none).before a0 Z = true) (hy : y.cls ≠ "java/lang/invoke/MethodHandle" ∧ y.cls ≠ "java/lang/invoke/VarHandle")
    {a : Addr} (hM : Con l Z y bytes maxL none [] rm as' h Q) (ha : (Value.ref a :: argsL).toArray = as') (hlen : ∀ sig, parseMethodDescriptor y.desc = some sig → argsL.length = sig.parameters.length) (hg : g.method = m) (hsize : g.locals.size = c.maxLocals) (hst : g.stack = argsL.reverse ++ .ref a :: rest)
    (hW : 2 * g.monitorRoom + (rest.map fun v => v.category).sum ≤ W) (hf : rm.frames + 1 ≤ R.frames) (hl : W + (maxL + 11) + rm.locals ≤ R.locals) (hc : cells + rm.cells ≤ R.cells) (hs : slots + rm.slots ≤ R.slots) (hd : decode c.code g.pc = .ok (.invokespecial index, 3))
    (k : ∀ (v : Option Value) (T' : State) (h' : Heap) (L : List Loc), Stand p l e R s m args below meth c T' (locs ++ L) (cells + rm.cells) (slots + rm.slots) → T'.heap = h' → Q v h' L → Go p.tables e below P T' { g with pc := g.pc + 3, stack := v.toList ++ rest }) : Go p.tables e below P T g := by
  exact Go.back (vs := as') (vm1 := fun _ => ⟨T, [], 0, 0⟩) (X.specialBack hx (y := y) hy1 hown (mvT hZ w1) (mvT hZ w2) (mvT hZ w4) hy (backOf (W := W) (a0 := a0) hM hZ w4 w3 hf hl) (g := g) hg hsize (Steps.refl _) (a := a) (argsL := argsL) (rest := rest) hlen hst hW hd (fun _ _ => ⟨ha, eT, hc, hs⟩)) k
theorem Go.callV (X : Stand p l e R s m args below meth c T locs cells slots) (hx : p.tables.exec = Jvm.exec) (hZ : Z.Warmed39 s.vm) (hown : s.vm.findClass own = some m.cls) (eT : T.heap = h)
    (w1 : (Cond.methodLink own index y).before a0 Z = true) (w2 : (Cond.declares y).before a0 Z = true) (w5 : (Cond.selects C y z).before a0 Z = true) (w6 : (Cond.instanceMethod z).before a0 Z = true) (w3 : (Cond.initialized z.cls).before a0 Z = true) (w4 : (Cond.code z bytes maxL ret).before a0 Z = true)
    (hnf : NotFace s y) (hy : y.cls ≠ "java/lang/invoke/MethodHandle" ∧ y.cls ≠ "java/lang/invoke/VarHandle")
    {a : Addr} (E : Exa Z h a C) (hM : Con l Z z bytes maxL ret [] rm as' h Q) (ha : (Value.ref a :: argsL).toArray = as') (hlen : ∀ sig, parseMethodDescriptor y.desc = some sig → argsL.length = sig.parameters.length) (hg : g.method = m) (hsize : g.locals.size = c.maxLocals) (hst : g.stack = argsL.reverse ++ .ref a :: rest)
    (hW : 2 * g.monitorRoom + (rest.map fun v => v.category).sum ≤ W) (hf : rm.frames + 1 ≤ R.frames) (hl : W + (maxL + 11) + rm.locals ≤ R.locals) (hc : cells + rm.cells ≤ R.cells) (hs : slots + rm.slots ≤ R.slots) (hd : decode c.code g.pc = .ok (.invokevirtual index, 3))
    (k : ∀ (v : Option Value) (T' : State) (h' : Heap) (L : List Loc), Stand p l e R s m args below meth c T' (locs ++ L) (cells + rm.cells) (slots + rm.slots) → T'.heap = h' → Q v h' L → Go p.tables e below P T' { g with pc := g.pc + 3, stack := v.toList ++ rest }) : Go p.tables e below P T g := by
  obtain ⟨cq, kq, qa, qb, qc⟩ := isOf hZ eT E
  exact Go.back (vs := as') (vm1 := fun _ => ⟨T, [], 0, 0⟩) (X.virtualBack hx (y := y) (z := z) hown (mvT hZ w1) (mvT hZ w2) hnf (mvT hZ w5) (mvT hZ w6) hy (backOf (W := W) (a0 := a0) hM hZ w4 w3 hf hl) qa qc (g := g) hg hsize (Steps.refl _) (argsL := argsL) (rest := rest) hlen hst hW hd (fun _ _ => ⟨ha, eT, hc, hs⟩)) k
theorem Go.callUp (X : Stand p l e R s m args below meth c T locs cells slots) (hx : p.tables.exec = Jvm.exec) (hZ : Z.Warmed39 s.vm) (hown : s.vm.findClass own = some m.cls) (eT : T.heap = h)
    (w1 : (Cond.methodLink own index y).before a0 Z = true) (w2 : (Cond.sameMethod y.cls owner y.name y.desc).before a0 Z = true) (w7 : (Cond.declares ⟨owner, y.name, y.desc⟩).before a0 Z = true) (hy : owner ≠ "java/lang/invoke/MethodHandle" ∧ owner ≠ "java/lang/invoke/VarHandle")
    (w5 : (Cond.selects C y z).before a0 Z = true) (w6 : (Cond.instanceMethod z).before a0 Z = true) (w3 : (Cond.initialized z.cls).before a0 Z = true) (w4 : (Cond.code z bytes maxL ret).before a0 Z = true)
    {a : Addr} (E : Exa Z h a C) (hM : Con l Z z bytes maxL ret [] rm as' h Q) (ha : (Value.ref a :: argsL).toArray = as') (hlen : ∀ sig, parseMethodDescriptor y.desc = some sig → argsL.length = sig.parameters.length) (hg : g.method = m) (hsize : g.locals.size = c.maxLocals) (hst : g.stack = argsL.reverse ++ .ref a :: rest)
    (hW : 2 * g.monitorRoom + (rest.map fun v => v.category).sum ≤ W) (hf : rm.frames + 1 ≤ R.frames) (hl : W + (maxL + 11) + rm.locals ≤ R.locals) (hc : cells + rm.cells ≤ R.cells) (hs : slots + rm.slots ≤ R.slots) (hd : decode c.code g.pc = .ok (.invokevirtual index, 3))
    (k : ∀ (v : Option Value) (T' : State) (h' : Heap) (L : List Loc), Stand p l e R s m args below meth c T' (locs ++ L) (cells + rm.cells) (slots + rm.slots) → T'.heap = h' → Q v h' L → Go p.tables e below P T' { g with pc := g.pc + 3, stack := v.toList ++ rest }) : Go p.tables e below P T g := by
  obtain ⟨cq, kq, qa, qb, qc⟩ := isOf hZ eT E
  exact Go.back (vs := as') (vm1 := fun _ => ⟨T, [], 0, 0⟩) (X.virtualBackUp hx (x := y) (y := z) hown (mvT hZ w1) (mvT hZ w2) (mvT hZ w7) hy (mvT hZ w5) (mvT hZ w6) (backOf (W := W) (a0 := a0) hM hZ w4 w3 hf hl) qa qc (g := g) hg hsize (Steps.refl _) (argsL := argsL) (rest := rest) hlen hst hW hd (fun _ _ => ⟨ha, eT, hc, hs⟩)) k
theorem ldCV (X : Stand p l e R s m args below meth c T locs cells slots) (hx : p.tables.exec = Jvm.exec) (hZ : Z.Warmed39 s.vm) (eT : T.heap = h) {a : Addr} {k : ClassId} {z : Int32} {vs : List Value} {d : Value} (F : Arv Z h a k .char z vs d) {j : Int32} (hj : ¬ j < 0 ∧ j < z) {v : Value} (hv : vs.getD j.toNatClampNeg d = v) {g : JFrame} (hg : g.method = m) {rest : List Value} (hs : g.stack = .int j :: .ref a :: rest) (hd : decode c.code g.pc = .ok (.caload, 1)) {target : State}
    (kk : Steps p.tables e below (T.setTop { g with pc := g.pc + 1, stack := v :: rest }) target) : Steps p.tables e below (T.setTop g) target := by
  obtain ⟨cl, A, q1, S, q3, H, G⟩ := F
  exact X.caload hx (j := j) (v := v) (by rw [eT]; exact A.1) (State.isArrayOf_alike hZ.alike A.2.1) A.2.2 (inb_of S hj) (H.at (inb_of S hj) hv) hg hs hd _ kk
theorem ldBV (X : Stand p l e R s m args below meth c T locs cells slots) (hx : p.tables.exec = Jvm.exec) (hZ : Z.Warmed39 s.vm) (eT : T.heap = h) {a : Addr} {k : ClassId} {z : Int32} {vs : List Value} {d : Value} (F : Arv Z h a k .byte z vs d) {j : Int32} (hj : ¬ j < 0 ∧ j < z) {v : Value} (hv : vs.getD j.toNatClampNeg d = v) {g : JFrame} (hg : g.method = m) {rest : List Value} (hs : g.stack = .int j :: .ref a :: rest) (hd : decode c.code g.pc = .ok (.baload, 1)) {target : State}
    (kk : Steps p.tables e below (T.setTop { g with pc := g.pc + 1, stack := v :: rest }) target) : Steps p.tables e below (T.setTop g) target := by
  obtain ⟨cl, A, q1, S, q3, H, G⟩ := F
  exact X.baloadBytes hx (j := j) (v := v) (by rw [eT]; exact A.1) (State.isArrayOf_alike hZ.alike A.2.1) A.2.2 (inb_of S hj) (H.at (inb_of S hj) hv) hg hs hd _ kk
theorem ldIV (X : Stand p l e R s m args below meth c T locs cells slots) (hx : p.tables.exec = Jvm.exec) (hZ : Z.Warmed39 s.vm) (eT : T.heap = h) {a : Addr} {k : ClassId} {z : Int32} {vs : List Value} {d : Value} (F : Arv Z h a k .int z vs d) {j : Int32} (hj : ¬ j < 0 ∧ j < z) {v : Value} (hv : vs.getD j.toNatClampNeg d = v) {g : JFrame} (hg : g.method = m) {rest : List Value} (hs : g.stack = .int j :: .ref a :: rest) (hd : decode c.code g.pc = .ok (.iaload, 1)) {target : State}
    (kk : Steps p.tables e below (T.setTop { g with pc := g.pc + 1, stack := v :: rest }) target) : Steps p.tables e below (T.setTop g) target := by
  obtain ⟨cl, A, q1, S, q3, H, G⟩ := F
  exact X.iaload hx (j := j) (v := v) (by rw [eT]; exact A.1) (State.isArrayOf_alike hZ.alike A.2.1) A.2.2 (inb_of S hj) (H.at (inb_of S hj) hv) hg hs hd _ kk
theorem ldRV (X : Stand p l e R s m args below meth c T locs cells slots) (hx : p.tables.exec = Jvm.exec) (hZ : Z.Warmed39 s.vm) (eT : T.heap = h) {a : Addr} {k : ClassId} {C : String} {z : Int32} {vs : List Value} {d : Value} (F : Arv Z h a k (.object C) z vs d) {j : Int32} (hj : ¬ j < 0 ∧ j < z) {v : Value} (hv : vs.getD j.toNatClampNeg d = v) {g : JFrame} (hg : g.method = m) {rest : List Value} (hs : g.stack = .int j :: .ref a :: rest) (hd : decode c.code g.pc = .ok (.aaload, 1)) {target : State}
    (kk : Steps p.tables e below (T.setTop { g with pc := g.pc + 1, stack := v :: rest }) target) : Steps p.tables e below (T.setTop g) target := by
  obtain ⟨cl, A, q1, S, q3, H, G⟩ := F
  exact X.aaload hx (j := j) (v := v) (by rw [eT]; exact A.1) (State.isArrayOf_alike hZ.alike A.2.1) rfl A.2.2 (inb_of S hj) (H.at (inb_of S hj) hv) hg hs hd _ kk
theorem lenV (X : Stand p l e R s m args below meth c T locs cells slots) (hx : p.tables.exec = Jvm.exec) (hZ : Z.Warmed39 s.vm) (eT : T.heap = h) {a : Addr} {k : ClassId} {ty : FieldType} {z : Int32} {vs : List Value} {d : Value} (F : Arv Z h a k ty z vs d) {g : JFrame} (hg : g.method = m) {rest : List Value} (hs : g.stack = .ref a :: rest) (hd : decode c.code g.pc = .ok (.arraylength, 1)) {target : State}
    (kk : Steps p.tables e below (T.setTop { g with pc := g.pc + 1, stack := .int z :: rest }) target) : Steps p.tables e below (T.setTop g) target := by
  obtain ⟨cl, A, q1, S, q3, H, G⟩ := F
  refine X.arraylength hx (by rw [eT]; exact A.1) (State.isArrayOf_alike hZ.alike A.2.1) hg hs hd _ ?_
  rw [len_of S q3]; exact kk
theorem stCV (X : Stand p l e R s m args below meth c T locs cells slots) (hx : p.tables.exec = Jvm.exec) (hZ : Z.Warmed39 s.vm) (eT : T.heap = h) {a : Addr} {k : ClassId} {z : Int32} {vs : List Value} {d : Value} (F : Arv Z h a k .char z vs d) {j x : Int32} {i : Nat} (hj : ¬ j < 0 ∧ j < z) (hi : j.toNatClampNeg = i) (hl : i < vs.length) {g : JFrame} (hg : g.method = m) {rest : List Value} (hs : g.stack = .int x :: .int j :: .ref a :: rest) (hd : decode c.code g.pc = .ok (.castore, 1)) :
    ∃ T' h', Stand p l e R s m args below meth c T' (locs ++ [⟨a, j.toNatClampNeg⟩]) cells slots ∧ T'.heap = h' ∧ Wr h h' a j.toNatClampNeg (.int (nar .char x)) ∧ Arv Z h' a k .char z (vs.set i (.int (nar .char x))) d ∧ ∀ target, Steps p.tables e below (T'.setTop { g with pc := g.pc + 1, stack := rest }) target → Steps p.tables e below (T.setTop g) target := by
  obtain ⟨cl, A, q1, S, q3, H, G⟩ := F
  obtain ⟨T', h', X', e', W, st⟩ := stC X hx hZ eT A (inb_of S hj) hg hs hd
  exact ⟨T', h', X', e', W, Arv.set A q1 S q3 H G (fits_nar_char _) W i hi hl, st⟩
theorem stBV (X : Stand p l e R s m args below meth c T locs cells slots) (hx : p.tables.exec = Jvm.exec) (hZ : Z.Warmed39 s.vm) (eT : T.heap = h) {a : Addr} {k : ClassId} {z : Int32} {vs : List Value} {d : Value} (F : Arv Z h a k .byte z vs d) {j x : Int32} {i : Nat} (hj : ¬ j < 0 ∧ j < z) (hi : j.toNatClampNeg = i) (hl : i < vs.length) {g : JFrame} (hg : g.method = m) {rest : List Value} (hs : g.stack = .int x :: .int j :: .ref a :: rest) (hd : decode c.code g.pc = .ok (.bastore, 1)) :
    ∃ T' h', Stand p l e R s m args below meth c T' (locs ++ [⟨a, j.toNatClampNeg⟩]) cells slots ∧ T'.heap = h' ∧ Wr h h' a j.toNatClampNeg (.int (nar .byte x)) ∧ Arv Z h' a k .byte z (vs.set i (.int (nar .byte x))) d ∧ ∀ target, Steps p.tables e below (T'.setTop { g with pc := g.pc + 1, stack := rest }) target → Steps p.tables e below (T.setTop g) target := by
  obtain ⟨cl, A, q1, S, q3, H, G⟩ := F
  obtain ⟨T', h', X', e', W, st⟩ := stB X hx hZ eT A (inb_of S hj) hg hs hd
  exact ⟨T', h', X', e', W, Arv.set A q1 S q3 H G (fits_nar_byte _) W i hi hl, st⟩
theorem eqv_r {Z : State} {args : Array Value} {X F : Term} {idx : List Nat} {y : Addr} (hF : F.eval args Z none idx Z = some (.ref y)) (h : (Cond.eq X F).value args Z none Z idx = some true) : X.eval args Z none idx Z = some (.ref y) := by
  cases hX : X.eval args Z none idx Z with
  | none => simp [Cond.value, hX] at h
  | some v => cases v <;> simp [Cond.value, hX, hF] at h ⊢; exact h
theorem Arv.startL {Z : State} {args : Array Value} {t : Term} {a : Addr} {ty : FieldType} {z : Int32} {vs : List Value} {dv : Value} (hf : Fit Z) (et : t.eval args Z none [] Z = some (.ref a)) (ha : (Cond.arrayOf t ty).value args Z none Z [] = some true) (hl : (Cond.eq (.length t) (.int z)).value args Z none Z [] = some true)
    (hz : ¬ z < 0) (hn : z.toNatClampNeg = vs.length) (H : ∀ c, Z.heap[a]? = some c → HasL c 0 vs) : ∃ k, Arv Z Z.heap a k ty z vs dv := by
  obtain ⟨c, A⟩ := Arr.start et ha
  obtain ⟨b, cell, e1, e2, e3, e4⟩ := Jvm.Lib.length_spec (eqv_i rfl hl)
  cases et.symm.trans e1
  cases (A.fin (Vm.Alike.refl _)).symm.trans e2
  exact ⟨c.cls, Arv.start hf A e3 (Value.int.inj e4).symm hz hn (H c A.1)⟩
theorem Keep.toExt (K : Keep h h' []) : Ext h h' := ⟨K.1, fun a c q => K.2.1 a c q (fun z => nomatch z)⟩
theorem Ext.toKeep (E : Ext h h') : Keep h h' [] := ⟨E.1, fun a c q _ => E.2 a c q, fun a c q => ⟨c, E.2 a c q, rfl, rfl, rfl⟩⟩
theorem Ext.refl (h : Heap) : Ext h h := ⟨Nat.le_refl _, fun _ _ q => q⟩
theorem Ext.tr {h2 : Heap} (A : Ext h h') (B : Ext h' h2) : Ext h h2 := ⟨Nat.le_trans A.1 B.1, fun a c q => B.2 a c (A.2 a c q)⟩
theorem Ext.thenK {h2 : Heap} {ws : List Addr} (A : Ext h h') (K : Keep h' h2 ws) (q : ∀ x ∈ ws, h.size ≤ x) : Ext h h2 := (A.toKeep.trans K fun x hx => Or.inr (q x hx)).toExt
theorem Ext.thenW {h2 : Heap} {a : Addr} {sl : Nat} {v : Value} (A : Ext h h') (W : Wr h' h2 a sl v) (q : h.size ≤ a) : Ext h h2 := (A.toKeep.wr W (Or.inr q)).toExt
/-- a String: its coder and its bytes -/
def StrB (Z : State) (h : Heap) (a : Addr) (cd : Int32) (bs : List Int32) : Prop := ∃ (t : Addr) (k : ClassId), Exa Z h a "java/lang/String" ∧ Fld Z h a "java/lang/String" "coder" "B" (.int cd) ∧ Fld Z h a "java/lang/String" "value" "[B" (.ref t) ∧ Arv Z h t k .byte (Int32.ofNat bs.length) (bs.map Value.int) (.int (0 : Int32))
theorem StrB.ext {a : Addr} {cd : Int32} {bs : List Int32} (F : StrB Z h a cd bs) (E : Ext h h') : StrB Z h' a cd bs := by
  obtain ⟨t, k, h1, h2, h3, h4⟩ := F; exact ⟨t, k, h1.ext E, h2.ext E, h3.ext E, h4.ext E⟩
theorem StrB.lt {a : Addr} {cd : Int32} {bs : List Int32} (F : StrB Z h a cd bs) : a < h.size := by obtain ⟨t, k, h1, -⟩ := F; exact h1.lt
theorem StrB.exa {a : Addr} {cd : Int32} {bs : List Int32} (F : StrB Z h a cd bs) : Exa Z h a "java/lang/String" := by obtain ⟨t, k, h1, -⟩ := F; exact h1
theorem StrB.keepO {a b : Addr} {C : String} {kk : Nat} {cd : Int32} {bs : List Int32} (F : StrB Z h a cd bs) (E : Exa Z h b C) (hC : C ≠ "java/lang/String") (wi : (Cond.instantiable C kk).before a0 Z = true) (K : Keep h h' [b]) : StrB Z h' a cd bs := by
  obtain ⟨t, k, h1, h2, h3, h4⟩ := F
  have n1 : a ≠ b := ne_exa h1 E (Ne.symm hC)
  have n2 : t ≠ b := by obtain ⟨c, A, -⟩ := h4; exact Ne.symm (ne_arr E wi A)
  exact ⟨t, k, h1.keep K, h2.keep K (ninS n1 nin0), h3.keep K (ninS n1 nin0), h4.keep K (ninS n2 nin0)⟩
theorem StrB.wrO {a b : Addr} {sl : Nat} {v : Value} {C : String} {kk : Nat} {cd : Int32} {bs : List Int32} (F : StrB Z h a cd bs) (E : Exa Z h b C) (hC : C ≠ "java/lang/String") (wi : (Cond.instantiable C kk).before a0 Z = true) (W : Wr h h' b sl v) : StrB Z h' a cd bs := F.keepO E hC wi (Keep.of_wr W)
theorem Arv.uniq {a : Addr} {k k' : ClassId} {ty ty' : FieldType} {bs ds : List Int32} (lb : bs.length < 2 ^ 31) (ld : ds.length < 2 ^ 31) (A : Arv Z h a k ty (Int32.ofNat bs.length) (bs.map Value.int) (.int 0)) (B : Arv Z h a k' ty' (Int32.ofNat ds.length) (ds.map Value.int) (.int 0)) : bs = ds := by
  obtain ⟨c1, A1, -, A3, -, A5, -⟩ := A
  obtain ⟨c2, B1, -, B3, -, B5, -⟩ := B
  cases A1.1.symm.trans B1.1
  have z : ∀ n : Nat, n < 2 ^ 31 → (Int32.ofNat n).toNatClampNeg = n := fun n hn => by
    have q : (Int32.ofNat n).toInt = n := Int32.toInt_ofNat_of_lt (by omega)
    simp [Int32.toNatClampNeg, q]
  rw [z _ lb] at A3
  rw [z _ ld] at B3
  have hl : bs.length = ds.length := A3.symm.trans B3
  refine List.ext_getElem hl fun i h1 h2 => ?_
  have q := (A5 i (by omega)).symm.trans (B5 i (by omega))
  simpa [List.getD_eq_getElem?_getD, h1, h2] using q
theorem StrB.uniq {a : Addr} {cd cd' : Int32} {bs ds : List Int32} (lb : bs.length < 2 ^ 31) (ld : ds.length < 2 ^ 31) (F : StrB Z h a cd bs) (G : StrB Z h a cd' ds) : cd = cd' ∧ bs = ds := by
  obtain ⟨t, k, h1, h2, h3, h4⟩ := F
  obtain ⟨t', k', g1, g2, g3, g4⟩ := G
  have e1 : cd = cd' := Classical.byContradiction fun q => h2.ne g2 (fun z => q (Value.int.inj z)) rfl
  have e2 : t = t' := Classical.byContradiction fun q => h3.ne g3 (fun z => q (Value.ref.inj z)) rfl
  subst e2
  exact ⟨e1, h4.uniq lb ld g4⟩
theorem NS.rootI {O K : String} {kk : Nat} (w : (Cond.noSuperclass O).before a0 Z = true) (wk : (Cond.instantiable K kk).before a0 Z = true) (hn : O ≠ K) : NS Z O K := by
  obtain ⟨c, k, h1, h2, h3, -, -⟩ := Cond.noSuperclass_spec w
  obtain ⟨t, kt, g1, -⟩ := Cond.instantiable_spec wk
  have ne := ids_ne h1 g1 hn
  refine ⟨c, t, h1, g1, fun fuel => ?_⟩
  cases fuel with
  | zero => rfl
  | succ f => simp [Vm.isSubclassAux, ne, h2, h3]
theorem NS.noI {C S K : String} {kk : Nat} (w : (Cond.superclass C S).before a0 Z = true) (wk : (Cond.instantiable K kk).before a0 Z = true) (n : NS Z C K) (hn : C ≠ K) : ∃ c t, Z.vm.findClass C = some c ∧ Z.vm.findClass K = some t ∧ Z.vm.assignable c t = false := by
  obtain ⟨c, t, h0, g0, n3⟩ := n
  obtain ⟨p, k, kp, h1, h2, h3, h4, h5, -, h7⟩ := Cond.superclass_spec h0 w
  obtain ⟨t', kt, g1, g2, g3, g4, -⟩ := Cond.instantiable_spec wk
  cases g0.symm.trans g1
  have g7 : kt.isInterface = false := by simp only [Bool.or_eq_false_iff] at g4; exact g4.1
  have ne := ids_ne h0 g0 hn
  refine ⟨c, t, h0, g0, ?_⟩
  show Z.vm.assignableAux (255 + 1) c t = false
  simp [Vm.assignableAux, ne, h2, g2, h5, g3, g7, Vm.isSubclass, n3]
theorem i2c_id {x : Int32} (h : 0 ≤ x.toInt ∧ x.toInt < 65536) : x.toUInt32.toUInt16.toUInt32.toInt32 = x := by
  have q := c_i2c x
  exact Int32.toInt_inj.mp (by omega)
theorem i2b_id {x : Int32} (h : -128 ≤ x.toInt ∧ x.toInt < 128) : x.toInt8.toInt32 = x := by
  have q := c_i2b x
  exact Int32.toInt_inj.mp (by omega)
theorem nar_b {x : Int32} : nar .byte (x.toInt8.toInt32) = x.toInt8.toInt32 := i2b_id (c_i2b x).2
theorem nar_c {x : Int32} : nar .char (x.toUInt32.toUInt16.toUInt32.toInt32) = x.toUInt32.toUInt16.toUInt32.toInt32 := i2c_id (c_i2c x).2
theorem nar_cid {x : Int32} (h : 0 ≤ x.toInt ∧ x.toInt < 65536) : nar .char x = x := i2c_id h
theorem and255 (x : Int32) : 0 ≤ ((x &&& 255).toUInt32.toUInt16.toUInt32.toInt32).toInt ∧ ((x &&& 255).toUInt32.toUInt16.toUInt32.toInt32).toInt ≤ 255 := by
  have h := c_mask x 255 8 (by decide) (by decide)
  have q := c_i2c (x &&& 255)
  omega
theorem le255 {x : Int32} (h : 0 ≤ x.toInt ∧ x.toInt ≤ 255) : ¬ (255 : Int32) < x := by rw [Int32.lt_iff_toInt_lt]; have : (255 : Int32).toInt = 255 := rfl; omega
theorem ne_lt {x b i j : Nat} (h1 : x < i) (h2 : i ≤ j) (h3 : j ≤ b) : x ≠ b := by omega
theorem own_add0 (n : Nat) : n + 0 = n := rfl
end OwnGo
end Jvm.RoadKit
namespace Jvm.RoadKit
open Sem ClassFile Op Lib Jvm.Stand Jvm.Free Jvm.LawKit
section OwnS
variable {p : Program} {l : Launch} {e : Env} {R : Room} {s : State} {m : MethodId} {args : Array Value} {below : List Frame} {meth : Method} {c : Code} {T T' : State} {locs : List Loc} {cells slots : Nat} {tb : Tables} {P : State → Outcome → Prop} {g g' : JFrame} {Z : State} {a0 : Array Value} {h h' h0 : Heap} {EL : List (String × Nat)} {vm0 : Vm} {k0 : Nat}
/-- the end of a body that may have interned its constants -/
def FinS (s Z : State) (EL : List (String × Nat)) (h0 : Heap) (Q : Option Value → Heap → List Loc → Prop) (K N : Nat) (u : State) (o : Outcome) : Prop := ∃ v L, o = .returned v ∧ Q v u.heap L ∧ CHr Z EL s.vm h0 u.vm u.heap ∧ ReturnedEndW s o u L K N
theorem Go.endS {Q : Option Value → Heap → List Loc → Prop} {K N : Nat} (X : Stand p l e R (s.setVm vm0) m args below meth c T locs cells slots) (hlk : meth.locks = false) (hS : s.Since vm0 k0) (hk : k0 ≤ h.size) (A : CHr Z EL s.vm h0 vm0 h) (hZ : Z.Warmed39 vm0) (hEL : EW Z a0 EL) (hK : cells ≤ K) (hN : slots ≤ N) (eT : T.heap = h)
    {v : Option Value} (hv : meth.sig.returnType = none → v = none) (hQ : Q v h locs)
    (run : ∀ fs, (∀ (f : JFrame) (acts : List Action), f.method = m → f.locked = none → f.entered = [] → (doReturn e (T.setTop f) acts v).1 = T.setFrames fs) → Steps p.tables e below (T.setTop g) (T.setFrames fs)) : Go p.tables e below (FinS s Z EL h0 Q K N) T g := by
  obtain ⟨fs, hr, hrun, hended, hE⟩ := Stand.leaveW (s := s) (vm₁ := vm0) X hS (by rw [eT]; exact hk) (v := v) hv hlk
  have hh : (T.setFrames fs).heap = h := eT
  refine ⟨_, _, run fs hr, hrun, hended, v, locs, rfl, by rw [hh]; exact hQ, ?_, hE.1, hE.2.1, hE.2.2.1, hE.2.2.2.mono hK hN⟩
  rw [hh]
  show CHr Z EL s.vm h0 T.vm h
  exact A.trans (CHv.at X hZ hEL A.1)
theorem Go.retNS {Q : Option Value → Heap → List Loc → Prop} {K N : Nat} (X : Stand p l e R (s.setVm vm0) m args below meth c T locs cells slots) (hx : p.tables.exec = Jvm.exec) (hlk : meth.locks = false) (hS : s.Since vm0 k0) (hk : k0 ≤ h.size) (A : CHr Z EL s.vm h0 vm0 h) (hZ : Z.Warmed39 vm0) (hEL : EW Z a0 EL) {pc : Nat} {Ls : Array Slot} {z : Int32} {t : FieldType} {rest : List Value} (hret : meth.sig.returnType = some t)
    (hn : narrow t (.int z) = .int z) (ht : t = .int ∨ t = .boolean ∨ t = .byte ∨ t = .char ∨ t = .short) (hd : decode c.code pc = .ok (.ireturn, 1)) (hK : cells ≤ K) (hN : slots ≤ N) (eT : T.heap = h) (hQ : Q (some (.int z)) h locs) : Go p.tables e below (FinS s Z EL h0 Q K N) T (mkF m pc Ls (.int z :: rest)) :=
  Go.endS X hlk hS hk A hZ hEL hK hN eT (fun q => by rw [hret] at q; cases q) hQ fun _ hr => retOut X hx hret hn (Or.inl ⟨rfl, ht, z, rfl⟩) hd hr
theorem Go.retAS {Q : Option Value → Heap → List Loc → Prop} {K N : Nat} (X : Stand p l e R (s.setVm vm0) m args below meth c T locs cells slots) (hx : p.tables.exec = Jvm.exec) (hlk : meth.locks = false) (hS : s.Since vm0 k0) (hk : k0 ≤ h.size) (A : CHr Z EL s.vm h0 vm0 h) (hZ : Z.Warmed39 vm0) (hEL : EW Z a0 EL) {pc : Nat} {Ls : Array Slot} {w : Value} {t : FieldType} {rest : List Value} (hret : meth.sig.returnType = some t)
    (ht : t.isReference = true) (hw : w.isRef = true) (hd : decode c.code pc = .ok (.areturn, 1)) (hK : cells ≤ K) (hN : slots ≤ N) (eT : T.heap = h) (hQ : Q (some w) h locs) : Go p.tables e below (FinS s Z EL h0 Q K N) T (mkF m pc Ls (w :: rest)) :=
  Go.endS X hlk hS hk A hZ hEL hK hN eT (fun q => by rw [hret] at q; cases q) hQ fun _ hr => retOut X hx hret (narrow_ref ht) (Or.inr (Or.inr (Or.inr (Or.inr ⟨rfl, ht, hw⟩)))) hd hr
theorem Go.retVS {Q : Option Value → Heap → List Loc → Prop} {K N : Nat} (X : Stand p l e R (s.setVm vm0) m args below meth c T locs cells slots) (hx : p.tables.exec = Jvm.exec) (hlk : meth.locks = false) (hS : s.Since vm0 k0) (hk : k0 ≤ h.size) (A : CHr Z EL s.vm h0 vm0 h) (hZ : Z.Warmed39 vm0) (hEL : EW Z a0 EL) {pc : Nat} {Ls : Array Slot} (hret : meth.sig.returnType = none)
    (hd : decode c.code pc = .ok (.return_, 1)) (hK : cells ≤ K) (hN : slots ≤ N) (eT : T.heap = h) (hQ : Q none h locs) : Go p.tables e below (FinS s Z EL h0 Q K N) T (mkF m pc Ls []) :=
  Go.endS X hlk hS hk A hZ hEL hK hN eT (fun _ => rfl) hQ fun _ hr => X.returnOut hx hret hd hr
/-- a body's contract where it may intern: the booked constants say their texts before and behind it -/
def ConS (l : Launch) (Z : State) (EL : List (String × Nat)) (y : MethodName) (bytes : ByteArray) (maxL : Nat) (ret : Option FieldType) (ws : List Cond) (rm : Room) (as' : Array Value) (h0 : Heap) (sl : List Addr) (Q : Option Value → Heap → List Loc → Prop) : Prop :=
  MetFree l y (head1 (Cond.code y bytes maxL ret :: ws) rm) (fun a U => a = as' ∧ Z.Warmed39 U.vm ∧ U.heap = h0 ∧ CHv Z EL U.vm h0 ∧ ∀ x ∈ sl, Safe Z EL U.vm h0 x) (fun _ _ _ _ _ => True) (fun _ U o U' => ∃ v L, o = .returned v ∧ Q v U'.heap L ∧ CHr Z EL U.vm U.heap U'.vm U'.heap ∧ ReturnedEndW U o U' L rm.cells rm.slots)
theorem ConS.enter {y : MethodName} {bytes : ByteArray} {maxL : Nat} {ret : Option FieldType} {ws : List Cond} {rm : Room} {as' : Array Value} {h0 : Heap} {sl : List Addr} {Q : Option Value → Heap → List Loc → Prop} (hp : plainFor y = true)
    (H : ∀ (p : Program) (e : Env) (s : State) (m : MethodId) (below : List Frame) (meth : Method) (c : Code) (s₁ : State), Stand p l e rm (s.setVm s.vm) m as' below meth c s₁ [] 0 0 → p.tables.exec = Jvm.exec → Z.Warmed39 s.vm → c.code = bytes → c.maxLocals = maxL → meth.sig.returnType = ret → meth.locks = false → s.vm.findClass y.cls = some m.cls → meth.name = y.name → s₁.heap = h0 → s.Since s.vm 0 → CHr Z EL s.vm h0 s.vm h0 → (∀ x ∈ sl, Safe Z EL s.vm h0 x) →
      Go p.tables e below (FinS s Z EL h0 Q rm.cells rm.slots) s₁ (entryFrame m as' maxL)) : ConS l Z EL y bytes maxL ret ws rm as' h0 sl Q := by
  refine MetFree.of_bodySF hp hisR ?_
  intro p e s m args below meth c s₁ Bd hml0 hP hK
  obtain ⟨rfl, hZ, hh, hC, hsf⟩ := hP
  obtain ⟨u, o, g1, g2, g3, v, L, g4, g5, g6, g7⟩ := H p e s m below meth c s₁ (Stand.of_body Bd) Bd.exec hZ Bd.bytes hml0 Bd.returns Bd.notSynchronized (findClass_of_methodNamed Bd.named) (name_of_methodNamed Bd.named Bd.method).1 (by rw [← hh, Bd.state]; rfl) ((State.WarmedH.refl s).since 0) (CHr.refl hC) hsf
  exact ⟨u, o, g1, g2, g3, v, L, g4, g5, by rw [hh]; exact g6, g7⟩
variable {y z : MethodName} {bytes : ByteArray} {maxL : Nat} {ret : Option FieldType} {rm : Room} {as' : Array Value} {sl : List Addr} {Q : Option Value → Heap → List Loc → Prop} {W len : Nat} {own C owner : String} {index : Nat} {argsL rest : List Value}
theorem backSL (hM : ConS l Z EL y bytes maxL ret [] rm as' h sl Q) (hZ : Z.Warmed39 vm0) (wc : (Cond.code y bytes maxL ret).before a0 Z = true) (wz : (Cond.initialized y.cls).before a0 Z = true) (hf : rm.frames + 1 ≤ R.frames) (hl : W + (maxL + 11) + rm.locals ≤ R.locals) (hEL : EW Z a0 EL) (H : CHv Z EL vm0 h) (hsf : ∀ x ∈ sl, x < h.size ∧ Safe Z EL vm0 h x) :
    BackS l R p e below (s.setVm vm0) args y len W (fun A a => a = as' ∧ A.U.heap = h ∧ A.cells + rm.cells ≤ R.cells ∧ A.slots + rm.slots ≤ R.slots)
      (fun A _ v B => ∃ L, Q v B.U.heap L ∧ B.locs = A.locs ++ L ∧ B.cells = A.cells + rm.cells ∧ B.slots = A.slots + rm.slots ∧ CHr Z EL vm0 h B.U.vm B.U.heap) := by
  refine BackS.of_freeW (bytes := bytes) (maxL := maxL) (ret := ret) (E := fun _ first o t L k n => k = rm.cells ∧ n = rm.slots ∧ (∃ v, o = .returned v ∧ Q v t.heap L) ∧ CHr Z EL first.vm first.heap t.vm t.heap) hM hf hl ?_ ?_ (fun _ _ _ _ _ _ _ _ _ => trivial) ?_ ?_
  · intro m meth c A a Y hp
    have hU : Z.Warmed39 A.U.vm := wtrans (s := s.setVm vm0) hZ Y.warmed
    exact ⟨by show (Cond.and _ .tt).before a A.U = true; rw [Cond.before_and, mv hU wc]; rfl, mv hU wc, mv hU wz, hp.2.2.1, hp.2.2.2⟩
  · intro m meth c A a g mk Y hp
    have q := CHv.at Y hZ hEL H
    exact ⟨hp.1, wtrans (s := s.setVm vm0) hZ Y.warmed, hp.2.1, q.1, fun x hx => q.safe (hsf x hx).1 (hsf x hx).2⟩
  · rintro _ _ _ _ ⟨v, L, h1, h2, h3, h4⟩
    exact ⟨L, _, _, h4, rfl, rfl, ⟨v, h1, h2⟩, h3⟩
  · rintro m meth c A a g mk v t L k n Y hp _ _ ⟨e1, e2, ⟨v', e3, e4⟩, e5⟩
    cases e3; subst e1 e2
    refine ⟨L, e4, rfl, rfl, rfl, (CHv.at Y hZ hEL H).trans ?_⟩
    rw [← hp.2.1]; exact e5
theorem Go.backS {n : Nat} (hZ : Z.Warmed39 vm0) (hown : vm0.findClass own = some m.cls) (hS : s.Since vm0 k0) (hk : k0 ≤ h.size) (eT : T.heap = h)
    (H : ∃ (v : Option Value) (vm₁ : Vm) (B : Pt), (s.setVm vm0).WarmedH vm₁ ∧ Stand p l e R ((s.setVm vm0).setVm B.U.vm) m args below meth c B.U B.locs B.cells B.slots ∧ (s.setVm vm0).Since B.U.vm B.U.heap.size ∧ T.heap.size ≤ B.U.heap.size ∧ (∃ L, Q v B.U.heap L ∧ B.locs = locs ++ L ∧ B.cells = cells + rm.cells ∧ B.slots = slots + rm.slots ∧ CHr Z EL vm0 h B.U.vm B.U.heap) ∧
      Steps p.tables e below (T.setTop g) (B.U.setTop { g with pc := g.pc + n, stack := v.toList ++ rest }))
    (k : ∀ (v : Option Value) (T' : State) (h' : Heap) (L : List Loc), Stand p l e R (s.setVm T'.vm) m args below meth c T' (locs ++ L) (cells + rm.cells) (slots + rm.slots) → T'.heap = h' → Q v h' L → s.Since T'.vm h'.size → Z.Warmed39 T'.vm → T'.vm.findClass own = some m.cls → CHr Z EL vm0 h T'.vm h' → Go p.tables e below P T' { g with pc := g.pc + n, stack := v.toList ++ rest }) : Go p.tables e below P T g := by
  obtain ⟨v, _, ⟨U, L1, k1, n1⟩, -, X', hS2, hge, ⟨L, hQ, e1, e2, e3, hC⟩, st⟩ := H
  have e1' : L1 = locs ++ L := e1
  have e2' : k1 = cells + rm.cells := e2
  have e3' : n1 = slots + rm.slots := e3
  subst e1' e2' e3'
  exact Go.tr st (k v U _ L X' rfl hQ (foldS (T := T) hS (by rw [eT]; exact hk) hS2 hge) (State.Warmed39.trans (t := s.setVm vm0) hZ hS2.1) (by rw [hS2.1.alike.findClass]; exact hown) hC)
theorem Go.callStS (X : Stand p l e R (s.setVm vm0) m args below meth c T locs cells slots) (hx : p.tables.exec = Jvm.exec) (hZ : Z.Warmed39 vm0) (hown : vm0.findClass own = some m.cls) (eT : T.heap = h) (hEL : EW Z a0 EL) (HC : CHv Z EL vm0 h) (hS : s.Since vm0 k0) (hk : k0 ≤ h.size)
    (w1 : (Cond.methodLink own index y).before a0 Z = true) (w2 : (Cond.static y).before a0 Z = true) (w3 : (Cond.initialized y.cls).before a0 Z = true) (w4 : (Cond.code y bytes maxL ret).before a0 Z = true) (hy : y.cls ≠ "java/lang/invoke/MethodHandle" ∧ y.cls ≠ "java/lang/invoke/VarHandle")
    (hM : ConS l Z EL y bytes maxL ret [] rm as' h sl Q) (hsf : ∀ x ∈ sl, x < h.size ∧ Safe Z EL vm0 h x) (ha : argsL.toArray = as') (hlen : ∀ sig, parseMethodDescriptor y.desc = some sig → argsL.length = sig.parameters.length) (hg : g.method = m) (hsize : g.locals.size = c.maxLocals) (hst : g.stack = argsL.reverse ++ rest)
    (hW : 2 * g.monitorRoom + (rest.map fun v => v.category).sum ≤ W) (hf : rm.frames + 1 ≤ R.frames) (hl : W + (maxL + 11) + rm.locals ≤ R.locals) (hc : cells + rm.cells ≤ R.cells) (hs : slots + rm.slots ≤ R.slots) (hd : decode c.code g.pc = .ok (.invokestatic index, 3))
    (k : ∀ (v : Option Value) (T' : State) (h' : Heap) (L : List Loc), Stand p l e R (s.setVm T'.vm) m args below meth c T' (locs ++ L) (cells + rm.cells) (slots + rm.slots) → T'.heap = h' → Q v h' L → s.Since T'.vm h'.size → Z.Warmed39 T'.vm → T'.vm.findClass own = some m.cls → CHr Z EL vm0 h T'.vm h' → Go p.tables e below P T' { g with pc := g.pc + 3, stack := v.toList ++ rest }) : Go p.tables e below P T g :=
  Go.backS hZ hown hS hk eT (callSS X hx (y := y) (bytes := bytes) (maxL := maxL) (ret := ret) hown (mvT (s := s.setVm vm0) hZ w1) (mvT (s := s.setVm vm0) hZ w2) (mvT (s := s.setVm vm0) hZ w3) (mvT (s := s.setVm vm0) hZ w4) hy (backSL (W := W) (a0 := a0) hM hZ w4 w3 hf hl hEL HC hsf) (g := g) hg hsize (argsL := argsL) (rest := rest) hlen hst hW hd (fun _ _ => ⟨ha, eT, hc, hs⟩)) k
theorem Go.callSpS (X : Stand p l e R (s.setVm vm0) m args below meth c T locs cells slots) (hx : p.tables.exec = Jvm.exec) (hZ : Z.Warmed39 vm0) (hown : vm0.findClass own = some m.cls) (eT : T.heap = h) (hEL : EW Z a0 EL) (HC : CHv Z EL vm0 h) (hS : s.Since vm0 k0) (hk : k0 ≤ h.size) (hy1 : y.name = "<init>")
    (w1 : (Cond.methodLink own index y).before a0 Z = true) (w2 : (Cond.instanceMethod y).before a0 Z = true) (w3 : (Cond.initialized y.cls).before a0 Z = true) (w4 : (Cond.code y bytes maxL none).before a0 Z = true) (hy : y.cls ≠ "java/lang/invoke/MethodHandle" ∧ y.cls ≠ "java/lang/invoke/VarHandle")
    {a : Addr} (hM : ConS l Z EL y bytes maxL none [] rm as' h sl Q) (hsf : ∀ x ∈ sl, x < h.size ∧ Safe Z EL vm0 h x) (ha : (Value.ref a :: argsL).toArray = as') (hlen : ∀ sig, parseMethodDescriptor y.desc = some sig → argsL.length = sig.parameters.length) (hg : g.method = m) (hsize : g.locals.size = c.maxLocals) (hst : g.stack = argsL.reverse ++ .ref a :: rest)
    (hW : 2 * g.monitorRoom + (rest.map fun v => v.category).sum ≤ W) (hf : rm.frames + 1 ≤ R.frames) (hl : W + (maxL + 11) + rm.locals ≤ R.locals) (hc : cells + rm.cells ≤ R.cells) (hs : slots + rm.slots ≤ R.slots) (hd : decode c.code g.pc = .ok (.invokespecial index, 3))
    (k : ∀ (v : Option Value) (T' : State) (h' : Heap) (L : List Loc), Stand p l e R (s.setVm T'.vm) m args below meth c T' (locs ++ L) (cells + rm.cells) (slots + rm.slots) → T'.heap = h' → Q v h' L → s.Since T'.vm h'.size → Z.Warmed39 T'.vm → T'.vm.findClass own = some m.cls → CHr Z EL vm0 h T'.vm h' → Go p.tables e below P T' { g with pc := g.pc + 3, stack := v.toList ++ rest }) : Go p.tables e below P T g :=
  Go.backS hZ hown hS hk eT (X.specialBackS hx (y := y) hy1 hown (mvT (s := s.setVm vm0) hZ w1) (mvT (s := s.setVm vm0) hZ w2) (mvT (s := s.setVm vm0) hZ w4) hy (backSL (W := W) (a0 := a0) hM hZ w4 w3 hf hl hEL HC hsf) (g := g) hg hsize (Steps.refl _) (a := a) (argsL := argsL) (rest := rest) hlen hst hW hd (fun _ _ => ⟨ha, eT, hc, hs⟩)) k
theorem Go.callVS (X : Stand p l e R (s.setVm vm0) m args below meth c T locs cells slots) (hx : p.tables.exec = Jvm.exec) (hZ : Z.Warmed39 vm0) (hown : vm0.findClass own = some m.cls) (eT : T.heap = h) (hEL : EW Z a0 EL) (HC : CHv Z EL vm0 h) (hS : s.Since vm0 k0) (hk : k0 ≤ h.size)
    (w1 : (Cond.methodLink own index y).before a0 Z = true) (w2 : (Cond.declares y).before a0 Z = true) (w5 : (Cond.selects C y z).before a0 Z = true) (w6 : (Cond.instanceMethod z).before a0 Z = true) (w3 : (Cond.initialized z.cls).before a0 Z = true) (w4 : (Cond.code z bytes maxL ret).before a0 Z = true)
    (hnf : NotFace (s.setVm vm0) y) (hy : y.cls ≠ "java/lang/invoke/MethodHandle" ∧ y.cls ≠ "java/lang/invoke/VarHandle")
    {a : Addr} (E : Exa Z h a C) (hM : ConS l Z EL z bytes maxL ret [] rm as' h sl Q) (hsf : ∀ x ∈ sl, x < h.size ∧ Safe Z EL vm0 h x) (ha : (Value.ref a :: argsL).toArray = as') (hlen : ∀ sig, parseMethodDescriptor y.desc = some sig → argsL.length = sig.parameters.length) (hg : g.method = m) (hsize : g.locals.size = c.maxLocals) (hst : g.stack = argsL.reverse ++ .ref a :: rest)
    (hW : 2 * g.monitorRoom + (rest.map fun v => v.category).sum ≤ W) (hf : rm.frames + 1 ≤ R.frames) (hl : W + (maxL + 11) + rm.locals ≤ R.locals) (hc : cells + rm.cells ≤ R.cells) (hs : slots + rm.slots ≤ R.slots) (hd : decode c.code g.pc = .ok (.invokevirtual index, 3))
    (k : ∀ (v : Option Value) (T' : State) (h' : Heap) (L : List Loc), Stand p l e R (s.setVm T'.vm) m args below meth c T' (locs ++ L) (cells + rm.cells) (slots + rm.slots) → T'.heap = h' → Q v h' L → s.Since T'.vm h'.size → Z.Warmed39 T'.vm → T'.vm.findClass own = some m.cls → CHr Z EL vm0 h T'.vm h' → Go p.tables e below P T' { g with pc := g.pc + 3, stack := v.toList ++ rest }) : Go p.tables e below P T g := by
  obtain ⟨cq, kq, qa, qb, qc⟩ := isOf (s := s.setVm vm0) hZ eT E
  exact Go.backS hZ hown hS hk eT (X.virtualBackS hx (y := y) (z := z) hown (mvT (s := s.setVm vm0) hZ w1) (mvT (s := s.setVm vm0) hZ w2) hnf (mvT (s := s.setVm vm0) hZ w5) (mvT (s := s.setVm vm0) hZ w6) hy (backSL (W := W) (a0 := a0) hM hZ w4 w3 hf hl hEL HC hsf) qa qc (g := g) hg hsize (Steps.refl _) (argsL := argsL) (rest := rest) hlen hst hW hd (fun _ _ => ⟨ha, eT, hc, hs⟩)) k
theorem chrE {vm1 : Vm} (A : CHr Z EL vm0 h0 vm1 h) (E : Ext h h') : CHr Z EL vm0 h0 vm1 h' := A.trans (CHr.ext E A.1)
theorem chrW {vm1 : Vm} {a : Addr} {sl : Nat} {v : Value} (A : CHr Z EL vm0 h0 vm1 h) (W : Wr h h' a sl v) (S : Safe Z EL vm1 h a) : CHr Z EL vm0 h0 vm1 h' := A.trans (CHr.wr W S A.1)
theorem chrK {vm1 : Vm} {ws : List Addr} (A : CHr Z EL vm0 h0 vm1 h) (K : Keep h h' ws) (S : ∀ x ∈ ws, Safe Z EL vm1 h x) : CHr Z EL vm0 h0 vm1 h' := A.trans (CHr.keep K S A.1)
end OwnS
end Jvm.RoadKit
namespace Jvm.Stand
open ClassFile Sem Op Lib Bundle Jvm.Free Jvm.Free.SB Jvm.Free.SBG
section OwnLdcW
variable {p : Program} {l : Launch} {e : Env} {R : Room} {s : State} {m : MethodId} {args : Array Value} {below : List Frame} {meth : Method} {c : Code} {T : State} {locs : List Loc} {cells slots : Nat}
/-- an open String entry, booked in tables V that hold its pair -/
theorem own_booked {s : State} {V : Vm} {d index i : Nat} {text : String} {us : Array UInt16} {a : Addr} {k : Class} {cf : ClassFile} (hk : s.vm.classes[d]? = some k) (hcf : k.cf = some cf) (hc : cf.constantPool[index]? = some (.string i)) (hu : cf.constantPool[i]? = some (.utf8 us))
    (hnm : namesOf? cf.constantPool index = some (.string text)) (ho : k.resolved[index]? = some none) (hV : s.Warmed39 V) (hf : V.interned.find? (fun q => q.1 == us) = some (us, a)) : s.Warmed39 (V.noted d index (.string a)) :=
  hV.notedString hk (Or.inl ho) (by rw [hcf]; exact hnm) (by rw [hcf]; exact hc) (by rw [hcf]; simp [ConstantPool.utf8?, hu]) hf
/-- the two cells of a String made at the heap's end -/
theorem own_made (T : State) (cB cS : ClassId) (kS : Class) (fv fc : Field) (us : Array UInt16) : (withString T cB cS kS fv fc us).heap = (T.heap.push (bytesOf cB us)).push (stringAt cS kS fv fc us T.heap.size) := by rw [withString_eq]; rfl
theorem own_made_old {T : State} {cB cS : ClassId} {kS : Class} {fv fc : Field} {us : Array UInt16} {b : Addr} (hb : b < T.heap.size) : (withString T cB cS kS fv fc us).heap[b]? = T.heap[b]? := by
  have n1 : b ≠ T.heap.size := Nat.ne_of_lt hb
  have n2 : b ≠ T.heap.size + 1 := Nat.ne_of_lt (Nat.lt_succ_of_lt hb)
  simp [own_made, Array.getElem?_push, n1, n2]
/-- **ldc_w of a String constant, nothing assumed of what is held** -/
theorem own_ldcW (X : Stand p l e R s m args below meth c T locs cells slots) (hx : p.tables.exec = Jvm.exec) {own text : String} {index : Nat} (hown : s.vm.findClass own = some m.cls) (hlink : (Cond.stringLink own index text).before args s = true) (hS : ∀ a ∈ Bundle.stringAtoms, a.before args s = true)
    {g : JFrame} (hg : g.method = m) (hd : decode c.code g.pc = .ok (.ldc_w index, 3)) {n : Nat} (hn : 4 * text.toList.length ≤ n) (hbig : n ≤ 536870912) (hc2 : cells + 2 ≤ R.cells) (hs2 : slots + (n + 4) ≤ R.slots) :
    ∃ (a : Addr) (U : State), Stand p l e R (s.setVm U.vm) m args below meth c U locs (cells + 2) (slots + (n + 4)) ∧ s.Since U.vm U.heap.size ∧ (∃ k, U.vm.classes[m.cls]? = some k ∧ k.resolved[index]? = some (some (.string a))) ∧ (∀ b, b < T.heap.size → U.heap[b]? = T.heap[b]?) ∧ T.Warmed39 U.vm ∧
      (U.vm.interned = T.vm.interned ∨ ∃ us : Array UInt16, utf16ToString? us = some text ∧ U.vm.interned = T.vm.interned.push (us, a) ∧ T.vm.interned.find? (fun q => q.1 == us) = none ∧ (us.all (· < 256) = true → SlIn 0 T.heap.size U a us)) ∧
      ∀ target, Steps p.tables e below (U.setTop { g with pc := g.pc + 3, stack := .ref a :: g.stack }) target → Steps p.tables e below (T.setTop g) target := by
  obtain ⟨k, cf, i, us, hk, hcf, hc, hu, hnm, hdec, hres⟩ := Cond.stringLink_spec hown hlink
  obtain ⟨k', hk', ek⟩ := X.warmed.alike.2.2 _ _ hk
  have hcf' : k'.cf = some cf := by rw [ek]; exact hcf
  subst hg
  by_cases hr : ∃ a, k'.resolved[index]? = some (some (.string a))
  · obtain ⟨a, hr⟩ := hr
    refine ⟨a, T, (X.mono (by omega) (by omega)).retabled X.warmed.wide, X.warmed.since _, ⟨k', hk', hr⟩, fun _ _ => rfl, State.Warmed39.refl T, Or.inl rfl, fun target z => ?_⟩
    jvm_step X.here [hx, hd, ldc_w.wp_string (e := e) (s := T) (f := g) X.here.top hk' hcf' hc hr]
    exact z
  · have ho : k.resolved[index]? = some none ∧ k'.resolved[index]? = some none := by
      rcases X.warmed.wide.entry hk hk' index with q | ⟨-, r, q, z | ⟨a, t, rfl, -⟩⟩
      · rcases hres with z | ⟨a, z⟩
        · exact ⟨z, q.trans z⟩
        · exact absurd ⟨a, q.trans z⟩ hr
      · exfalso; cases r <;> simp [State.rightAt, hk, hcf, hnm] at z
      · exact absurd ⟨a, q⟩ hr
    cases hf : T.vm.interned.find? (fun q => q.1 == us) with
    | some pr =>
      obtain ⟨u', a⟩ := pr
      obtain rfl : u' = us := by simpa using Array.find?_some hf
      have hW := own_booked hk hcf hc hu hnm ho.1 X.warmed.wide hf
      refine ⟨a, T.setVm (T.vm.noted g.method.cls index (.string a)), (X.mono (by omega) (by omega)).retabled hW, ⟨hW, State.Booked.step (T₂ := T.setVm (T.vm.noted g.method.cls index (.string a))) (X.warmed.no_new_pair _) X.same.2.1 ⟨Nat.le_refl _, Or.inl rfl⟩⟩,
        ⟨_, Vm.classes_note_self index (.string a) hk', Class.resolved_note_self (.string a) ho.2⟩, fun _ _ => rfl, own_booked hk' hcf' hc hu hnm ho.2 (State.Warmed39.refl T) hf, Or.inl rfl, fun target z => ?_⟩
      jvm_step X.here [hx, hd, ldc_w.wp_string_found (e := e) (s := T) (f := g) X.here.top hk' hcf' hc hu ho.2 hf]
      exact z
    | none =>
      obtain ⟨Q, LQ, n4, fitV, fitC⟩ := StringT.of_atoms (args := args) hS
      obtain ⟨kS, kB, L1, ty⟩ := LQ.warmer X.warmed.alike
      have hb : (stringBytes us).size ≤ n := Nat.le_trans (text_bytes_le hdec) hn
      have hp : ({ T.vm with interned := T.vm.interned.push (us, T.heap.size + 1) } : Vm).interned.find? (fun q => q.1 == us) = some (us, T.heap.size + 1) := by
        show (T.vm.interned.push (us, T.heap.size + 1)).find? _ = _
        rw [Array.find?_push, hf]; simp
      have hW := own_booked hk hcf hc hu hnm ho.1 (X.warmed.wide.interns us (T.heap.size + 1)) hp
      have hT := own_booked hk' hcf' hc hu hnm ho.2 ((State.Warmed39.refl T).interns us (T.heap.size + 1)) hp
      obtain ⟨V, hV⟩ : ∃ V, V = ({ T.vm with interned := T.vm.interned.push (us, T.heap.size + 1) } : Vm).noted g.method.cls index (.string (T.heap.size + 1)) := ⟨_, rfl⟩
      rw [← hV] at hW hT
      have sz : (withString T Q.cB Q.cS kS Q.fv Q.fc us).heap.size = T.heap.size + 2 := by rw [own_made]; simp [Array.size_push]
      have cell0 : (withString T Q.cB Q.cS kS Q.fv Q.fc us).heap[T.heap.size]? = some (bytesOf Q.cB us) := by rw [own_made, Array.getElem?_push_lt (by rw [Array.size_push]; omega), Array.getElem_push_eq]
      have cell1 : (withString T Q.cB Q.cS kS Q.fv Q.fc us).heap[T.heap.size + 1]? = some (stringAt Q.cS kS Q.fv Q.fc us T.heap.size) := by
        have q := Array.getElem?_push_size (xs := T.heap.push (bytesOf Q.cB us)) (x := stringAt Q.cS kS Q.fv Q.fc us T.heap.size)
        rw [Array.size_push] at q
        rw [own_made]; exact q
      have vi : V.interned = T.vm.interned.push (us, T.heap.size + 1) := by rw [hV]; rfl
      have Y := (X.pushed (bytesOf Q.cB us)).pushed (stringAt Q.cS kS Q.fv Q.fc us T.heap.size)
      rw [← withString_eq] at Y
      have y1 : (bytesOf Q.cB us).slots.size = (stringBytes us).size := by rw [(Cell.writeAll_facts _ _).2.2]; simp [bytes0]
      have y2 : (stringAt Q.cS kS Q.fv Q.fc us T.heap.size).slots.size = 4 := by simp [string0, Cell.setSlot, ty, n4]
      refine ⟨T.heap.size + 1, (withString T Q.cB Q.cS kS Q.fv Q.fc us).setVm V, (Y.mono (by omega) (by rw [y1, y2]; omega)).retabled hW, ⟨hW, State.Booked.step (T₂ := (withString T Q.cB Q.cS kS Q.fv Q.fc us).setVm V) (X.warmed.no_new_pair _) X.same.2.1 ⟨?_, Or.inr ⟨us, T.heap.size + 1, vi, by omega, ?_⟩⟩⟩,
        ?_, fun b hb => own_made_old hb, hT, Or.inr ⟨us, hdec, vi, hf, fun hl => made_sl (W := (withString T Q.cB Q.cS kS Q.fv Q.fc us).setVm V) hS LQ n4 ty hW.alike cell0 cell1 hl (by omega) 0⟩, fun target z => ?_⟩
      · show T.heap.size ≤ (withString T Q.cB Q.cS kS Q.fv Q.fc us).heap.size; omega
      · show T.heap.size + 1 < (withString T Q.cB Q.cS kS Q.fv Q.fc us).heap.size; omega
      · rw [hV]; exact ⟨_, Vm.classes_note_self (vm := { T.vm with interned := T.vm.interned.push (us, T.heap.size + 1) }) index (.string (T.heap.size + 1)) hk', Class.resolved_note_self (.string (T.heap.size + 1)) ho.2⟩
      · have fs : T.fitsSlot = s.fitsSlot := (show T.fitsSlot = (s.setVm T.vm).fitsSlot from rfl).trans (State.fitsSlot_setVm X.warmed.alike)
        have r1 := Launch.admits_arrayLengthLimit X.admits
        have r2 := Launch.admits_maxHeapBytes X.admits
        have r3 := X.slotsAbove hs2
        refine Steps.instr (c := _) (by simpa using X.here) ?_
        simp [jvm, wpRun, exec, X.here.top, hx, hd]
        refine ldc_w.wp_string_new (e := e) (s := T) (f := g) X.here.top hk' hcf' hc hu ho.2 hf L1.found L1.cls L1.initialized L1.ordinary L1.foundB L1.clsB L1.kindB L1.value L1.coder (by rw [r1]; omega) (by rw [r2]; simp only [componentBytes]; omega) (X.cellsAbove hc2) (by rw [show kS.instanceTypes.size = 4 by rw [ty, n4]]; omega)
          (stringBytes_fit L1.clsB L1.kindB us) L1.valueSlot L1.coderSlot (by rw [fs]; exact fitV _) (by rw [fs]; exact fitC _) (fun _ _ acts => ?_)
        have t0 : (withString T Q.cB Q.cS kS Q.fv Q.fc us).topJava?.isSome := by simpa [withString] using X.here.top
        have t1 : ((withString T Q.cB Q.cS kS Q.fv Q.fc us).setVm V).topJava?.isSome := by simpa using t0
        rw [← hV]
        simp [jvm, afterInstr, t0, t1]
        rw [State.modifyTopJava_setTop]
        exact z
end OwnLdcW
end Jvm.Stand
namespace Jvm.RoadKit
open Sem ClassFile Op Lib Bundle Jvm.Stand Jvm.Free Jvm.LawKit Jvm.Free.SB Jvm.Free.SBG
section OwnHeldW
variable {p : Program} {l : Launch} {e : Env} {R : Room} {s : State} {m : MethodId} {args : Array Value} {below : List Frame} {meth : Method} {c : Code} {T : State} {locs : List Loc} {cells slots : Nat} {Z : State} {a0 : Array Value} {EL : List (String × Nat)} {h : Heap} {vm0 vm : Vm} {own text : String} {index : Nat}
/-- what a held Latin-1 String says, in the walk's facts -/
theorem own_held {q : SQ} {us : Array UInt16} (hal : Z.vm.Alike vm) (F : SlB (Wst Z vm h) q us) (hlat : us.all (· < 256) = true) {vs : List Value} {z : Int32} (ev : vs = us.toList.map fun u => Value.int (Jvm.Lit.byteI u)) (hz : ¬ z < 0) (hl : z.toNatClampNeg = vs.length) :
    Exa Z h q.sa "java/lang/String" ∧ Fld Z h q.sa "java/lang/String" "coder" "B" (.int 0) ∧ Fld Z h q.sa "java/lang/String" "value" "[B" (.ref q.sd) ∧ Arv Z h q.sd q.SA.cls .byte z vs (.int 0) := by
  obtain ⟨cS, ⟨⟨u1, u2, u3, ⟨cv, kv, iv, u4, u4'⟩, ⟨cc, kc, ic, u5, u5'⟩, u6, u7, u8, u9, u10, u11, u12, u13, u14, u15, u16⟩, hf, rfl⟩, ⟨kS, k1, k2, k3⟩, hB, hbyt⟩ := F
  have hfZ : Z.vm.findClass "java/lang/String" = some q.sC.cls := by rw [← hal.findClass]; exact hf
  obtain ⟨kz, hkz, -⟩ := Vm.findClass_spec hfZ
  obtain ⟨kz', hkz', ez⟩ := hal.2.2 _ _ hkz
  have e1 : kz' = kS := Option.some.inj (hkz'.symm.trans k1)
  have hBZ : Z.vm.findClass "[B" = some q.SA.cls := by rw [← hal.findClass]; exact hB
  obtain ⟨kb, hkb, -⟩ := Vm.findClass_spec hBZ
  obtain ⟨kb', hkb', eb⟩ := hal.2.2 _ _ hkb
  obtain ⟨ho, k9, hk9, comp, kd9⟩ := u11
  have e9 : k9 = kb' := Option.some.inj ((show vm.classes[q.SA.cls]? = some k9 from hk9).symm.trans hkb')
  obtain ⟨kv', zv⟩ := ff_back (U := Wst Z vm h) hal u4
  obtain ⟨kc', zc⟩ := ff_back (U := Wst Z vm h) hal u5
  have hsl : q.SA.slots = us.map fun u => Value.int (Jvm.Lit.byteI u) := by rw [hbyt, SBG.stringBytes_lat hlat]; rfl
  have hn : q.SA.slots.size = vs.length := by rw [hsl, ev]; simp
  have HH : Has q.SA vs (.int 0) := fun j hj => by
    have hj' : j < us.size := by rw [hsl, Array.size_map] at hj; exact hj
    rw [hsl, ev]; simp [hj']
  refine ⟨⟨q.sC, kz, u1, hfZ, hkz, u3, fun _ => by rw [k3, ← e1, ez]⟩, ⟨q.sC, cc, kc', ic, q.fSC, u1, zc, u7, u2, u3, by rw [← hal.assignable]; exact u5', u9⟩, ⟨q.sC, cv, kv', iv, q.fSV, u1, zv, u6, u2, u3, by rw [← hal.assignable]; exact u4', u8⟩, ⟨q.SA, ⟨u10, ⟨ho, kb, hkb, comp, by rw [e9, eb] at kd9; exact kd9⟩, u12⟩, rfl, by rw [hn, hl], hz, HH, fun j hj => ?_⟩⟩
  have a1 := u16 j hj
  rw [SBG.getD_of (HH j hj)] at a1
  exact a1
/-- **ldc_w of a constant of EL, read** -/
theorem ldcCHW (X : Stand p l e R (s.setVm vm0) m args below meth c T locs cells slots) (hx : p.tables.exec = Jvm.exec) (hZ : Z.Warmed39 vm0) (hown : vm0.findClass own = some m.cls) (w : (Cond.stringLink own index text).before a0 Z = true) (wS : ∀ a ∈ Bundle.stringAtoms, a.before a0 Z = true)
    (eT : T.heap = h) {k0 : Nat} (hS : s.Since vm0 k0) (hk : k0 ≤ h.size) (hEL : EW Z a0 EL) (hmem : (own, index) ∈ EL) (H : CHv Z EL vm0 h)
    {vs : List Value} {z : Int32} (ht : (∀ c ∈ text.toList, c.toNat < 256) ∧ text.toList.map (fun c => Value.int (Jvm.Lit.byteI c.toNat.toUInt16)) = vs) (hz : ¬ z < 0) (hl : z.toNatClampNeg = vs.length)
    {g : JFrame} (hg : g.method = m) (hd : decode c.code g.pc = .ok (.ldc_w index, 3)) {n : Nat} (hn : 4 * text.toList.length ≤ n) (hbig : n ≤ 536870912) (hc : cells + 2 ≤ R.cells) (hl' : slots + (n + 4) ≤ R.slots) :
    ∃ (a : Addr) (T' : State) (h' : Heap) (k1 : Nat) (b : Addr) (k : ClassId), Stand p l e R (s.setVm T'.vm) m args below meth c T' locs (cells + 2) (slots + (n + 4)) ∧ T'.heap = h' ∧ Ext h h' ∧ s.Since T'.vm k1 ∧ k1 ≤ h'.size ∧ Z.Warmed39 (s.setVm T'.vm).vm ∧ (s.setVm T'.vm).vm.findClass own = some m.cls ∧
      Exa Z h' a "java/lang/String" ∧ Fld Z h' a "java/lang/String" "coder" "B" (.int 0) ∧ Fld Z h' a "java/lang/String" "value" "[B" (.ref b) ∧ Arv Z h' b k .byte z vs (.int 0) ∧ a < h'.size ∧ b < h'.size ∧ CHr Z EL vm0 h T'.vm h' ∧ True ∧ (∀ x, Safe Z EL T'.vm h' x → x ≠ a ∧ x ≠ b) ∧
      ∀ target, Steps p.tables e below (T'.setTop { g with pc := g.pc + 3, stack := .ref a :: g.stack }) target → Steps p.tables e below (T.setTop g) target := by
  subst eT
  have at0 : ∀ d ∈ Bundle.stringAtoms, d.before args (s.setVm vm0) = true := fun d hd => by
    have q := wS d hd
    simp only [Bundle.stringAtoms, List.mem_cons, List.not_mem_nil, or_false] at hd
    rcases hd with rfl | rfl | rfl | hd
    · exact mv (s := s.setVm vm0) hZ q
    · exact mv (s := s.setVm vm0) hZ q
    · exact mvA (s := s.setVm vm0) hZ q
    · rcases hd with rfl | rfl | rfl | rfl <;> exact mv (s := s.setVm vm0) hZ q
  obtain ⟨a, U, X', hS', ⟨kk, hkk, hrr⟩, hold, hTU, hint, st⟩ := X.own_ldcW hx (own := own) hown (mvS hZ w) at0 hg hd hn hbig hc hl'
  have E : Ext T.heap U.heap := ext_of hold
  have hZU : Z.Warmed39 U.vm := State.Warmed39.trans (t := s.setVm vm0) hZ hS'.1
  have hf : U.vm.findClass own = some m.cls := by rw [hS'.1.alike.findClass]; exact hown
  have A := CHv.at X hZ hEL H
  have B := CHv.later (vm := T.vm) (vm1 := U.vm) (wtrans (s := s.setVm vm0) hZ X.warmed) (show (Wst Z T.vm T.heap).Warmed39 U.vm from hTU) hEL E (hint.imp id fun ⟨us, _, e1, e2, e3⟩ => ⟨us, a, e1, e2, fun hlat => by
    obtain ⟨q, cS, hq, r1, r2, r3, r4, r5⟩ := e3 hlat
    have F : SlB U q us := ⟨cS, r1, r2, r3, r4⟩
    exact ⟨q, hq, F.carry (V := Wst Z U.vm U.heap) (Vm.Alike.refl _) F.ha F.hd, r5.elim (fun z => absurd z.1 (Nat.not_lt_zero _)) id⟩⟩) A.1
  have C : CHr Z EL vm0 T.heap U.vm U.heap := A.trans ⟨B.1, E.1, B.2⟩
  obtain ⟨k0', cf, i, us, hk1, hcf, hp, hu, -, htx, -⟩ := Cond.stringLink_spec (s := Wst Z U.vm U.heap) hf (mvS (s := { Z with heap := U.heap }) (args := args) hZU w)
  have hkx : k0' = kk := Option.some.inj ((show U.vm.classes[m.cls]? = some k0' from hk1).symm.trans hkk)
  have bk : Booksv U.vm own index us a := ⟨m.cls, k0', cf, i, hf, hk1, hcf, hp, hu, Or.inl (by rw [hkx]; exact hrr)⟩
  obtain ⟨q, rfl, F⟩ := SlB.of (C.1 _ hmem us a bk)
  have ev : vs = us.toList.map fun u => Value.int (Jvm.Lit.byteI u) := by rw [← ht.2, Jvm.ClassFile.units_of_text htx ht.1, List.map_map]; rfl
  obtain ⟨f1, f2, f3, f4⟩ := own_held hZU.alike F (Jvm.ClassFile.lat_of_text htx ht.1) ev hz hl
  exact ⟨q.sa, U, _, _, q.sd, q.SA.cls, X', rfl, E, hS.trans hS' (Nat.le_trans hk E.1), Nat.le_refl _, hZU, hf, f1, f2, f3, f4, f1.lt, f4.lt, C, trivial, fun x S => ⟨fun e1 => S ⟨_, hmem, us, _, bk, q, rfl, F, Or.inl e1⟩, fun e1 => S ⟨_, hmem, us, _, bk, q, rfl, F, Or.inr e1⟩⟩, st⟩
end OwnHeldW
end Jvm.RoadKit
namespace Jvm.RoadKit
open Sem ClassFile Op Lib Jvm.Stand Jvm.Free Jvm.LawKit Jvm.Free.SB Jvm.Free.SBG
section OwnCopy
variable {p : Program} {l : Launch} {e : Env} {R : Room} {s : State} {m : MethodId} {args : Array Value} {below : List Frame} {meth : Method} {c : Code} {T : State} {locs : List Loc} {cells slots : Nat} {Z : State} {a0 : Array Value} {h : Heap} {own : String} {index : Nat}
theorem oc_clamp {i : Nat} (hi : i < 2 ^ 31) : (Int32.ofNat i).toNatClampNeg = i := by
  have q : (Int32.ofNat i).toInt = i := Int32.toInt_ofNat_of_lt (by omega)
  simp [Int32.toNatClampNeg, q]
theorem oc_nn {i : Nat} (hi : i < 2 ^ 31) : ¬ Int32.ofNat i < 0 := by
  rw [Int32.lt_iff_toInt_lt, Int32.toInt_ofNat_of_lt (by omega)]; have : (0 : Int32).toInt = 0 := rfl; omega
theorem oc_getD (bs : List Int32) (i : Nat) : (bs.map Value.int).getD i (.int (0 : Int32)) = .int (bs.getD i 0) := by
  simp only [List.getD_eq_getElem?_getD, List.getElem?_map]
  cases bs[i]? <;> rfl
/-- System.arraycopy of n bytes from place f on, to the begin of an array of n -/
theorem own_copyV (X : Stand p l e R s m args below meth c T locs cells slots) (hx : p.tables.exec = Jvm.exec) (hZ : Z.Warmed39 s.vm) (hown : s.vm.findClass own = some m.cls) (w1 : (Cond.methodLink own index acN).before a0 Z = true) (w2 : (Cond.native acN).before a0 Z = true) (w3 : (Cond.static acN).before a0 Z = true) (w4 : (Cond.initialized "java/lang/System").before a0 Z = true) (eT : T.heap = h)
    {src dst : Addr} {k k' : ClassId} {xs ys : List Int32} {f n : Nat} (A : Arv Z h src k .byte (Int32.ofNat xs.length) (xs.map Value.int) (.int (0 : Int32))) (B : Arv Z h dst k' .byte (Int32.ofNat n) (ys.map Value.int) (.int (0 : Int32))) (hfn : f + n ≤ xs.length) (hlx : xs.length < 2 ^ 31)
    {g : JFrame} (hg : g.method = m) (hsize : g.locals.size = c.maxLocals) {rest : List Value} (hst : g.stack = .int (Int32.ofNat n) :: .int 0 :: .ref dst :: .int (Int32.ofNat f) :: .ref src :: rest) (hd : decode c.code g.pc = .ok (.invokestatic index, 3)) (hfr : 1 ≤ R.frames)
    (hlo : 2 * g.monitorRoom + (rest.map fun v => v.category).sum + (nativeFrameWords "java/lang/System" "arraycopy" 5 + 11) ≤ R.locals) :
    ∃ T' h', Stand p l e R s m args below meth c T' (locs ++ copyLocs dst 0 n) cells slots ∧ T'.heap = h' ∧ Keep h h' [dst] ∧ Arv Z h' dst k' .byte (Int32.ofNat n) (((xs.drop f).take n).map Value.int) (.int (0 : Int32)) ∧
      ∀ target, Steps p.tables e below (T'.setTop { g with pc := g.pc + 3, stack := rest }) target → Steps p.tables e below (T.setTop g) target := by
  obtain ⟨cA, ⟨a1, a2, a3⟩, -, aS, -, aH, aG⟩ := A
  obtain ⟨cB, ⟨b1, b2, b3⟩, bk, bS, bn, bH, bG⟩ := B
  have kf : (Int32.ofNat f).toNatClampNeg = f := oc_clamp (by omega)
  have kn : (Int32.ofNat n).toNatClampNeg = n := oc_clamp (by omega)
  have tf : (Int32.ofNat f).toInt = f := Int32.toInt_ofNat_of_lt (by omega)
  have tn : (Int32.ofNat n).toInt = n := Int32.toInt_ofNat_of_lt (by omega)
  have t0 : (0 : Int32).toInt = 0 := rfl
  rw [oc_clamp hlx] at aS
  rw [kn] at bS
  subst eT
  have av : ∀ i, f + i < xs.length → cA.slots.getD (f + i) .null = .int (xs.getD (f + i) 0) := fun i hi => by
    rw [SBG.getD_of (aH (f + i) (by omega)), oc_getD]
  obtain ⟨sA, kA, hkA, pA, dA⟩ := State.isArrayOf_alike hZ.alike a2
  obtain ⟨sB, kB, hkB, pB, dB⟩ := State.isArrayOf_alike hZ.alike b2
  obtain ⟨vm₁, -, X', st⟩ := X.arraycopyK hx hown (mvT hZ w1) (mvT hZ w2) (mvT hZ w3) (mvT hZ w4) (src := src) (dst := dst) (srcPos := Int32.ofNat f) (destPos := 0) (n := Int32.ofNat n) a1 b1 sA sB a3 b3 hkA hkB dA dB rfl (oc_nn (by omega)) (by decide) (oc_nn (by omega)) (by omega) (by omega)
    (fun vm₁ _ i hi => by
      rw [kn] at hi
      rw [kf, av i (by omega)]
      refine ⟨?_, trivial⟩
      have q := aG (f + i) (by omega)
      rw [oc_getD] at q
      exact q) hg hsize hst hd hfr hlo
  rw [show (0 : Int32).toNatClampNeg = 0 from rfl, kn] at X'
  have cp : copied cA cB (Int32.ofNat f) 0 (Int32.ofNat n) = cB.storeRun 0 (cA.stretch f n) := by rw [copied, kf, kn]; rfl
  rw [cp] at X' st
  have fa := Cell.storeRun_facts cB 0 (cA.stretch f n)
  have hgt : ∀ j, j < n → (cB.storeRun 0 (cA.stretch f n)).slots[j]? = some (.int (xs.getD (f + j) 0)) := fun j hj => by
    have q := Cell.storePairs_get cB 0 (cA.stretch f n) 0 j (by rw [Cell.stretch_length]; omega)
    rw [if_pos ⟨by omega, by rw [Cell.stretch_length]; omega⟩] at q
    refine (show (cB.storeRun 0 (cA.stretch f n)).slots[j]? = _ from q).trans ?_
    rw [← av j (by omega)]
    simp [Cell.stretch, hj]
  have hnew : ((T.setVm vm₁).setCell dst (cB.storeRun 0 (cA.stretch f n))).heap[dst]? = some (cB.storeRun 0 (cA.stretch f n)) := State.heap_setCell_self b1
  have hoth : ∀ b, dst ≠ b → ((T.setVm vm₁).setCell dst (cB.storeRun 0 (cA.stretch f n))).heap[b]? = T.heap[b]? := fun b hb => State.heap_setCell_other hb
  have gt : ∀ j, j < n → (((xs.drop f).take n).map Value.int).getD j (.int (0 : Int32)) = .int (xs.getD (f + j) 0) := fun j hj => by
    rw [oc_getD]
    simp only [List.getD_eq_getElem?_getD, List.getElem?_take, List.getElem?_drop, if_pos hj]
  refine ⟨_, _, X', rfl, ⟨by show T.heap.size ≤ (T.heap.setIfInBounds dst _).size; simp, fun b cb q r => (hoth b fun z => r (by rw [z]; exact List.mem_singleton.mpr rfl)).trans q, fun b cb q => ?_⟩, ⟨_, ⟨hnew, ?_, by rw [fa.2.1]; exact b3⟩, by rw [fa.1]; exact bk, by rw [fa.2.2.1, bS, kn], bn, fun j hj => ?_, fun j hj => ?_⟩, st⟩
  · by_cases z : dst = b
    · subst z
      cases b1.symm.trans q
      exact ⟨_, hnew, fa.1, fa.2.1, fa.2.2.1⟩
    · exact ⟨cb, (hoth b z).trans q, rfl, rfl, rfl⟩
  · obtain ⟨z1, kz, z2, z3⟩ := b2
    exact ⟨by rw [fa.2.1]; exact z1, kz, by rw [fa.1]; exact z2, z3⟩
  · rw [fa.2.2.1, bS] at hj
    rw [hgt j hj, gt j hj]
  · rw [fa.2.2.1, bS] at hj
    rw [gt j hj]
    have q := aG (f + j) (by omega)
    rw [oc_getD] at q
    exact q
end OwnCopy
end Jvm.RoadKit
namespace Jvm.Pilot.@@N@@
open Jvm Jvm.ClassFile Sem Op Lib Jvm.Free Jvm.Stand Jvm.LawKit Jvm.RoadKit Bundle Jvm.Pilot.@@N@@.Jvm.D
def EL0 : List (String × Nat) := [("com/example/tokenweave/tokenweave/engine/BpmnReader", 287), ("com/example/tokenweave/tokenweave/engine/BpmnReader", 289), ("com/example/tokenweave/tokenweave/engine/BpmnReader", 291), ("com/example/tokenweave/tokenweave/engine/BpmnReader", 293), ("com/example/tokenweave/tokenweave/engine/BpmnReaderXmlBooleanPinLaw", 7), ("com/example/tokenweave/tokenweave/engine/BpmnReaderXmlBooleanPinLaw", 9), ("com/example/tokenweave/tokenweave/engine/BpmnReaderXmlBooleanPinLaw", 11), ("com/example/tokenweave/tokenweave/engine/BpmnReaderXmlBooleanPinLaw", 13)]
theorem w152 {a0 : Array Value} {Z : State} (hw : ∀ d ∈ tables_1, d.before a0 Z = true) : ((Jvm.Cond.stringLink "com/example/tokenweave/tokenweave/engine/BpmnReaderXmlBooleanPinLaw" (13 : Nat) "0")).before a0 Z = true := hw _ (List.mem_of_getElem? (i := 152) rfl)
theorem w155 {a0 : Array Value} {Z : State} (hw : ∀ d ∈ tables_1, d.before a0 Z = true) : ((Jvm.Cond.stringLink "com/example/tokenweave/tokenweave/engine/BpmnReaderXmlBooleanPinLaw" (11 : Nat) "false")).before a0 Z = true := hw _ (List.mem_of_getElem? (i := 155) rfl)
theorem w107 {a0 : Array Value} {Z : State} (hw : ∀ d ∈ tables_1, d.before a0 Z = true) : ((Jvm.Cond.stringLink "com/example/tokenweave/tokenweave/engine/BpmnReaderXmlBooleanPinLaw" (9 : Nat) "1")).before a0 Z = true := hw _ (List.mem_of_getElem? (i := 107) rfl)
theorem w0 {a0 : Array Value} {Z : State} (hw : ∀ d ∈ tables_1, d.before a0 Z = true) : ((Jvm.Cond.stringLink "com/example/tokenweave/tokenweave/engine/BpmnReaderXmlBooleanPinLaw" (7 : Nat) "true")).before a0 Z = true := hw _ (List.mem_of_getElem? (i := 0) rfl)
theorem w154 {a0 : Array Value} {Z : State} (hw : ∀ d ∈ tables_1, d.before a0 Z = true) : ((Jvm.Cond.stringLink "com/example/tokenweave/tokenweave/engine/BpmnReader" (293 : Nat) "0")).before a0 Z = true := hw _ (List.mem_of_getElem? (i := 154) rfl)
theorem w153 {a0 : Array Value} {Z : State} (hw : ∀ d ∈ tables_1, d.before a0 Z = true) : ((Jvm.Cond.stringLink "com/example/tokenweave/tokenweave/engine/BpmnReader" (291 : Nat) "false")).before a0 Z = true := hw _ (List.mem_of_getElem? (i := 153) rfl)
theorem w151 {a0 : Array Value} {Z : State} (hw : ∀ d ∈ tables_1, d.before a0 Z = true) : ((Jvm.Cond.stringLink "com/example/tokenweave/tokenweave/engine/BpmnReader" (289 : Nat) "1")).before a0 Z = true := hw _ (List.mem_of_getElem? (i := 151) rfl)
theorem w101 {a0 : Array Value} {Z : State} (hw : ∀ d ∈ tables_1, d.before a0 Z = true) : ((Jvm.Cond.stringLink "com/example/tokenweave/tokenweave/engine/BpmnReader" (287 : Nat) "true")).before a0 Z = true := hw _ (List.mem_of_getElem? (i := 101) rfl)
theorem hEL0 {a0 : Array Value} {Z : State} (hw : ∀ d ∈ tables_1, d.before a0 Z = true) : EW Z a0 EL0 := (EW.cons (w101 hw) (by decide) (EW.cons (w151 hw) (by decide) (EW.cons (w153 hw) (by decide) (EW.cons (w154 hw) (by decide) (EW.cons (w0 hw) (by decide) (EW.cons (w107 hw) (by decide) (EW.cons (w155 hw) (by decide) (EW.cons (w152 hw) (by decide) EW.nil))))))))
theorem hSt0 {a0 : Array Value} {Z : State} (hw : ∀ d ∈ tables_1, d.before a0 Z = true) : ∀ a ∈ Bundle.stringAtoms, a.before a0 Z = true := fun d hd => hw d ((by decide +kernel : ∀ d ∈ Bundle.stringAtoms, d ∈ tables_1) d hd)
theorem own_oflt {i n : Nat} (h : i < n) (hn : n < 2 ^ 31) : Int32.ofNat i < Int32.ofNat n := by
  rw [Int32.lt_iff_toInt_lt, Int32.toInt_ofNat_of_lt (by omega), Int32.toInt_ofNat_of_lt (by omega)]; omega
theorem own_ofnl {i n : Nat} (h : ¬ i < n) (hi : i < 2 ^ 31) (hn : n < 2 ^ 31) : ¬ Int32.ofNat i < Int32.ofNat n := by
  rw [Int32.lt_iff_toInt_lt, Int32.toInt_ofNat_of_lt (by omega), Int32.toInt_ofNat_of_lt (by omega)]; omega
theorem own_ofn0 {i : Nat} (hi : i < 2 ^ 31) : ¬ Int32.ofNat i < 0 := by
  rw [Int32.lt_iff_toInt_lt, Int32.toInt_ofNat_of_lt (by omega)]; have : (0 : Int32).toInt = 0 := rfl; omega
theorem own_ofinj {i n : Nat} (hi : i < 2 ^ 31) (hn : n < 2 ^ 31) (h : Int32.ofNat i = Int32.ofNat n) : i = n := by
  have q := congrArg Int32.toInt h
  rw [Int32.toInt_ofNat_of_lt (by omega), Int32.toInt_ofNat_of_lt (by omega)] at q; omega
theorem own_clamp {i : Nat} (hi : i < 2 ^ 31) : (Int32.ofNat i).toNatClampNeg = i := by
  have q : (Int32.ofNat i).toInt = i := Int32.toInt_ofNat_of_lt (by omega)
  simp [Int32.toNatClampNeg, q]
theorem own_getD (bs : List Int32) (i : Nat) : (bs.map Value.int).getD i (.int (0 : Int32)) = .int (bs.getD i 0) := by
  simp only [List.getD_eq_getElem?_getD, List.getElem?_map]
  cases bs[i]? <;> rfl
theorem own_take {bs ds : List Int32} {i : Nat} (h1 : i < bs.length) (h2 : i < ds.length) (h : bs.take i = ds.take i) (q : bs.getD i 0 = ds.getD i 0) : bs.take (i + 1) = ds.take (i + 1) := by
  have a1 : bs.getD i 0 = bs[i] := by simp [List.getD_eq_getElem?_getD, h1]
  have a2 : ds.getD i 0 = ds[i] := by simp [List.getD_eq_getElem?_getD, h2]
  rw [List.take_succ_eq_append_getElem h1, List.take_succ_eq_append_getElem h2, h, ← a1, ← a2, q]
theorem own_one (i : Nat) : Int32.ofNat i + (1 : Int32) = Int32.ofNat (i + 1) := (Int32.ofNat_add i 1).symm
theorem d33_0 : decode jdk_43_method_13_code 0 = .ok (.aload_n 0, 1) := by decide +kernel
theorem d33_1 : decode jdk_43_method_13_code 1 = .ok (.arraylength, 1) := by decide +kernel
theorem d33_2 : decode jdk_43_method_13_code 2 = .ok (.aload_n 1, 1) := by decide +kernel
theorem d33_3 : decode jdk_43_method_13_code 3 = .ok (.arraylength, 1) := by decide +kernel
theorem d33_4 : decode jdk_43_method_13_code 4 = .ok (.if_icmp .ne 30, 3) := by decide +kernel
theorem d33_7 : decode jdk_43_method_13_code 7 = .ok (.iconst 0, 1) := by decide +kernel
theorem d33_8 : decode jdk_43_method_13_code 8 = .ok (.istore_n 2, 1) := by decide +kernel
theorem d33_9 : decode jdk_43_method_13_code 9 = .ok (.iload_n 2, 1) := by decide +kernel
theorem d33_10 : decode jdk_43_method_13_code 10 = .ok (.aload_n 0, 1) := by decide +kernel
theorem d33_11 : decode jdk_43_method_13_code 11 = .ok (.arraylength, 1) := by decide +kernel
theorem d33_12 : decode jdk_43_method_13_code 12 = .ok (.if_icmp .ge 20, 3) := by decide +kernel
theorem d33_32 : decode jdk_43_method_13_code 32 = .ok (.iconst 1, 1) := by decide +kernel
theorem d33_33 : decode jdk_43_method_13_code 33 = .ok (.ireturn, 1) := by decide +kernel
theorem d33_15 : decode jdk_43_method_13_code 15 = .ok (.aload_n 0, 1) := by decide +kernel
theorem d33_16 : decode jdk_43_method_13_code 16 = .ok (.iload_n 2, 1) := by decide +kernel
theorem d33_17 : decode jdk_43_method_13_code 17 = .ok (.baload, 1) := by decide +kernel
theorem d33_18 : decode jdk_43_method_13_code 18 = .ok (.aload_n 1, 1) := by decide +kernel
theorem d33_19 : decode jdk_43_method_13_code 19 = .ok (.iload_n 2, 1) := by decide +kernel
theorem d33_20 : decode jdk_43_method_13_code 20 = .ok (.baload, 1) := by decide +kernel
theorem d33_21 : decode jdk_43_method_13_code 21 = .ok (.if_icmp .eq 5, 3) := by decide +kernel
theorem d33_26 : decode jdk_43_method_13_code 26 = .ok (.iinc 2 1, 3) := by decide +kernel
theorem d33_29 : decode jdk_43_method_13_code 29 = .ok (.goto (-20), 3) := by decide +kernel
theorem d33_24 : decode jdk_43_method_13_code 24 = .ok (.iconst 0, 1) := by decide +kernel
theorem d33_25 : decode jdk_43_method_13_code 25 = .ok (.ireturn, 1) := by decide +kernel
theorem d33_34 : decode jdk_43_method_13_code 34 = .ok (.iconst 0, 1) := by decide +kernel
theorem d33_35 : decode jdk_43_method_13_code 35 = .ok (.ireturn, 1) := by decide +kernel
def rr_eqLatin : Room := { frames := 0, cells := 0, slots := 0, locals := 0 }
theorem pn0 : plainName "java/lang/StringLatin1" = true := by first | (simp [plainName, overriddenIn]; done) | decide +kernel
set_option maxRecDepth 65536 in
set_option maxHeartbeats 40000000 in
theorem rm_eqLatin (l : Launch) (Z : State) (a0 : Array Value) (hw : ∀ d ∈ tables_1, d.before a0 Z = true) (ws : List Jvm.Cond) (t u : Addr) (k k' : ClassId) (bs ds : List Int32) (h0 : Heap) (n0 : Nat) (Z0 : n0 ≤ h0.size) (V1 : Arv Z h0 t k .byte (Int32.ofNat bs.length) (bs.map Value.int) (.int (0 : Int32))) (V2 : Arv Z h0 u k' .byte (Int32.ofNat ds.length) (ds.map Value.int) (.int (0 : Int32))) (lb : bs.length < 2 ^ 31) (ld : ds.length < 2 ^ 31) :
    Con l Z (⟨"java/lang/StringLatin1", "equals", "([B[B)Z"⟩ : MethodName) jdk_43_method_13_code 3 (some .boolean) ws rr_eqLatin #[(.ref t), (.ref u)] h0 (fun v h L => ∃ r : Int32, v = some (.int r) ∧ ((r = 1 ∧ bs = ds) ∨ (r = 0 ∧ ¬ bs = ds)) ∧ Fr n0 L ∧ h = h0) := by
  refine Con.enter (plainFor_of_name pn0) ?_
  intro p e s m below meth c s₁ X0 hx hZ hby hml hret hlk hown hnm e0
  have N0 := Fr.nil n0
  refine Go.cast (g' := (mkF m 0 #[.val (.ref t), .val (.ref u), .unset] [])) (by first | rfl | (simp [entryFrame, mkF, argsToLocals, Value.category]; done)) ?_
  refine Go.st (T' := s₁) (g' := (mkF m 1 #[.val (.ref t), .val (.ref u), .unset] [(.ref t)])) (fun _ zk => XS.aloadN X0.here hx rfl (hb hby d33_0) rfl rfl zk) ?_
  refine Go.st (T' := s₁) (g' := (mkF m 2 #[.val (.ref t), .val (.ref u), .unset] [(.int (Int32.ofNat bs.length))])) (fun _ zk => lenV X0 hx hZ e0 V1 (g := (mkF m 1 #[.val (.ref t), .val (.ref u), .unset] [(.ref t)])) rfl (rest := []) rfl (hb hby d33_1) zk) ?_
  refine Go.st (T' := s₁) (g' := (mkF m 3 #[.val (.ref t), .val (.ref u), .unset] [(.ref u), (.int (Int32.ofNat bs.length))])) (fun _ zk => XS.aloadN X0.here hx rfl (hb hby d33_2) rfl rfl zk) ?_
  refine Go.st (T' := s₁) (g' := (mkF m 4 #[.val (.ref t), .val (.ref u), .unset] [(.int (Int32.ofNat ds.length)), (.int (Int32.ofNat bs.length))])) (fun _ zk => lenV X0 hx hZ e0 V2 (g := (mkF m 3 #[.val (.ref t), .val (.ref u), .unset] [(.ref u), (.int (Int32.ofNat bs.length))])) rfl (rest := [(.int (Int32.ofNat bs.length))]) rfl (hb hby d33_3) zk) ?_
  by_cases hc4 : (Int32.ofNat bs.length) = (Int32.ofNat ds.length)
  · refine Go.st (T' := s₁) (g' := (mkF m 7 #[.val (.ref t), .val (.ref u), .unset] [])) (fun _ zk => XS.icmpNo X0.here hx rfl (hb hby d33_4) rfl (teq hc4).2 zk) ?_
    have hl : bs.length = ds.length := own_ofinj lb ld hc4
    refine Go.st (T' := s₁) (g' := (mkF m 8 #[.val (.ref t), .val (.ref u), .unset] [(.int (0 : Int32))])) (fun _ zk => XS.iconst X0.here hx rfl (hb hby d33_7) zk) ?_
    refine Go.st (T' := s₁) (g' := (mkF m 9 #[.val (.ref t), .val (.ref u), .val (.int (0 : Int32))] [])) (fun _ zk => XS.istoreN X0.here hx rfl (hb hby d33_8) rfl (l' := #[.val (.ref t), .val (.ref u), .val (.int (0 : Int32))]) rfl zk) ?_
    have loop : ∀ (q i : Nat), i + q = bs.length → bs.take i = ds.take i → Go p.tables e below (FinP s (fun v h L => ∃ r : Int32, v = some (.int r) ∧ ((r = 1 ∧ bs = ds) ∨ (r = 0 ∧ ¬ bs = ds)) ∧ Fr n0 L ∧ h = h0) rr_eqLatin.cells rr_eqLatin.slots) s₁ (mkF m 9 #[.val (.ref t), .val (.ref u), .val (.int (Int32.ofNat i))] []) := by
      intro q
      induction q with
      | zero =>
        intro i hi ht
        refine Go.st (T' := s₁) (g' := (mkF m 10 #[.val (.ref t), .val (.ref u), .val (.int (Int32.ofNat i))] [(.int (Int32.ofNat i))])) (fun _ zk => XS.iloadN X0.here hx rfl (hb hby d33_9) rfl zk) ?_
        refine Go.st (T' := s₁) (g' := (mkF m 11 #[.val (.ref t), .val (.ref u), .val (.int (Int32.ofNat i))] [(.ref t), (.int (Int32.ofNat i))])) (fun _ zk => XS.aloadN X0.here hx rfl (hb hby d33_10) rfl rfl zk) ?_
        refine Go.st (T' := s₁) (g' := (mkF m 12 #[.val (.ref t), .val (.ref u), .val (.int (Int32.ofNat i))] [(.int (Int32.ofNat bs.length)), (.int (Int32.ofNat i))])) (fun _ zk => lenV X0 hx hZ e0 V1 (g := (mkF m 11 #[.val (.ref t), .val (.ref u), .val (.int (Int32.ofNat i))] [(.ref t), (.int (Int32.ofNat i))])) rfl (rest := [(.int (Int32.ofNat i))]) rfl (hb hby d33_11) zk) ?_
        refine Go.st (T' := s₁) (g' := (mkF m 32 #[.val (.ref t), .val (.ref u), .val (.int (Int32.ofNat i))] [])) (fun _ zk => XS.icmpYes X0.here hx rfl (pc0 := 12) (pc' := 32) rfl (hb hby d33_12) rfl (flt (own_ofnl (by omega) (by omega) (by omega) : ¬ ((Int32.ofNat i) < (Int32.ofNat bs.length)))).2.1 (by decide) (by decide) zk) ?_
        refine Go.st (T' := s₁) (g' := (mkF m 33 #[.val (.ref t), .val (.ref u), .val (.int (Int32.ofNat i))] [(.int (1 : Int32))])) (fun _ zk => XS.iconst X0.here hx rfl (hb hby d33_32) zk) ?_
        refine Go.retN X0 hx hlk hret rfl (by simp) (hb hby d33_33) (by decide) (by decide) e0 ?_
        rw [List.take_of_length_le (by omega), List.take_of_length_le (by omega)] at ht
        exact ⟨_, rfl, Or.inl ⟨rfl, ht⟩, N0, rfl⟩
      | succ q ih =>
        intro i hi ht
        refine Go.st (T' := s₁) (g' := (mkF m 10 #[.val (.ref t), .val (.ref u), .val (.int (Int32.ofNat i))] [(.int (Int32.ofNat i))])) (fun _ zk => XS.iloadN X0.here hx rfl (hb hby d33_9) rfl zk) ?_
        refine Go.st (T' := s₁) (g' := (mkF m 11 #[.val (.ref t), .val (.ref u), .val (.int (Int32.ofNat i))] [(.ref t), (.int (Int32.ofNat i))])) (fun _ zk => XS.aloadN X0.here hx rfl (hb hby d33_10) rfl rfl zk) ?_
        refine Go.st (T' := s₁) (g' := (mkF m 12 #[.val (.ref t), .val (.ref u), .val (.int (Int32.ofNat i))] [(.int (Int32.ofNat bs.length)), (.int (Int32.ofNat i))])) (fun _ zk => lenV X0 hx hZ e0 V1 (g := (mkF m 11 #[.val (.ref t), .val (.ref u), .val (.int (Int32.ofNat i))] [(.ref t), (.int (Int32.ofNat i))])) rfl (rest := [(.int (Int32.ofNat i))]) rfl (hb hby d33_11) zk) ?_
        refine Go.st (T' := s₁) (g' := (mkF m 15 #[.val (.ref t), .val (.ref u), .val (.int (Int32.ofNat i))] [])) (fun _ zk => XS.icmpNo X0.here hx rfl (hb hby d33_12) rfl (tlt (own_oflt (by omega) (by omega) : (Int32.ofNat i) < (Int32.ofNat bs.length))).2.1 zk) ?_
        refine Go.st (T' := s₁) (g' := (mkF m 16 #[.val (.ref t), .val (.ref u), .val (.int (Int32.ofNat i))] [(.ref t)])) (fun _ zk => XS.aloadN X0.here hx rfl (hb hby d33_15) rfl rfl zk) ?_
        refine Go.st (T' := s₁) (g' := (mkF m 17 #[.val (.ref t), .val (.ref u), .val (.int (Int32.ofNat i))] [(.int (Int32.ofNat i)), (.ref t)])) (fun _ zk => XS.iloadN X0.here hx rfl (hb hby d33_16) rfl zk) ?_
        refine Go.st (T' := s₁) (g' := (mkF m 18 #[.val (.ref t), .val (.ref u), .val (.int (Int32.ofNat i))] [(.int (bs.getD i 0))])) (fun _ zk => ldBV X0 hx hZ e0 V1 (j := (Int32.ofNat i)) ⟨own_ofn0 (by omega), own_oflt (by omega) (by omega)⟩ (v := (.int (bs.getD i 0))) (by rw [own_clamp (by omega)]; exact own_getD bs i) (g := (mkF m 17 #[.val (.ref t), .val (.ref u), .val (.int (Int32.ofNat i))] [(.int (Int32.ofNat i)), (.ref t)])) rfl (rest := []) rfl (hb hby d33_17) zk) ?_
        refine Go.st (T' := s₁) (g' := (mkF m 19 #[.val (.ref t), .val (.ref u), .val (.int (Int32.ofNat i))] [(.ref u), (.int (bs.getD i 0))])) (fun _ zk => XS.aloadN X0.here hx rfl (hb hby d33_18) rfl rfl zk) ?_
        refine Go.st (T' := s₁) (g' := (mkF m 20 #[.val (.ref t), .val (.ref u), .val (.int (Int32.ofNat i))] [(.int (Int32.ofNat i)), (.ref u), (.int (bs.getD i 0))])) (fun _ zk => XS.iloadN X0.here hx rfl (hb hby d33_19) rfl zk) ?_
        refine Go.st (T' := s₁) (g' := (mkF m 21 #[.val (.ref t), .val (.ref u), .val (.int (Int32.ofNat i))] [(.int (ds.getD i 0)), (.int (bs.getD i 0))])) (fun _ zk => ldBV X0 hx hZ e0 V2 (j := (Int32.ofNat i)) ⟨own_ofn0 (by omega), own_oflt (by omega) (by omega)⟩ (v := (.int (ds.getD i 0))) (by rw [own_clamp (by omega)]; exact own_getD ds i) (g := (mkF m 20 #[.val (.ref t), .val (.ref u), .val (.int (Int32.ofNat i))] [(.int (Int32.ofNat i)), (.ref u), (.int (bs.getD i 0))])) rfl (rest := [(.int (bs.getD i 0))]) rfl (hb hby d33_20) zk) ?_
        by_cases hc21 : (bs.getD i 0) = (ds.getD i 0)
        · refine Go.st (T' := s₁) (g' := (mkF m 26 #[.val (.ref t), .val (.ref u), .val (.int (Int32.ofNat i))] [])) (fun _ zk => XS.icmpYes X0.here hx rfl (pc0 := 21) (pc' := 26) rfl (hb hby d33_21) rfl (teq hc21).1 (by decide) (by decide) zk) ?_
          refine Go.st (T' := s₁) (g' := (mkF m 29 #[.val (.ref t), .val (.ref u), .val (.int ((Int32.ofNat i) + (1 : Int32)))] [])) (fun _ zk => XS.iinc X0.here hx rfl (hb hby d33_26) rfl (l' := #[.val (.ref t), .val (.ref u), .val (.int ((Int32.ofNat i) + (1 : Int32)))]) rfl zk) ?_
          refine Go.st (T' := s₁) (g' := (mkF m 9 #[.val (.ref t), .val (.ref u), .val (.int ((Int32.ofNat i) + (1 : Int32)))] [])) (fun _ zk => XS.goto X0.here hx rfl (pc0 := 29) (pc' := 9) rfl (hb hby d33_29) (by decide) (by decide) zk) ?_
          rw [own_one]
          exact ih (i + 1) (by omega) (own_take (by omega) (by omega) ht hc21)
        · refine Go.st (T' := s₁) (g' := (mkF m 24 #[.val (.ref t), .val (.ref u), .val (.int (Int32.ofNat i))] [])) (fun _ zk => XS.icmpNo X0.here hx rfl (hb hby d33_21) rfl (feq hc21).1 zk) ?_
          refine Go.st (T' := s₁) (g' := (mkF m 25 #[.val (.ref t), .val (.ref u), .val (.int (Int32.ofNat i))] [(.int (0 : Int32))])) (fun _ zk => XS.iconst X0.here hx rfl (hb hby d33_24) zk) ?_
          refine Go.retN X0 hx hlk hret rfl (by simp) (hb hby d33_25) (by decide) (by decide) e0 ?_
          exact ⟨_, rfl, Or.inr ⟨rfl, fun q' => hc21 (by rw [q'])⟩, N0, rfl⟩
    exact loop bs.length 0 (by omega) rfl
  · refine Go.st (T' := s₁) (g' := (mkF m 34 #[.val (.ref t), .val (.ref u), .unset] [])) (fun _ zk => XS.icmpYes X0.here hx rfl (pc0 := 4) (pc' := 34) rfl (hb hby d33_4) rfl (feq hc4).2 (by decide) (by decide) zk) ?_
    refine Go.st (T' := s₁) (g' := (mkF m 35 #[.val (.ref t), .val (.ref u), .unset] [(.int (0 : Int32))])) (fun _ zk => XS.iconst X0.here hx rfl (hb hby d33_34) zk) ?_
    refine Go.retN X0 hx hlk hret rfl (by simp) (hb hby d33_35) (by decide) (by decide) e0 ?_
    exact ⟨_, rfl, Or.inr ⟨rfl, fun q' => hc4 (by rw [q'])⟩, N0, rfl⟩
theorem d22_0 : decode jdk_42_method_66_code 0 = .ok (.aload_n 0, 1) := by decide +kernel
theorem d22_1 : decode jdk_42_method_66_code 1 = .ok (.aload_n 1, 1) := by decide +kernel
theorem d22_2 : decode jdk_42_method_66_code 2 = .ok (.if_acmp .ne 5, 3) := by decide +kernel
theorem d22_5 : decode jdk_42_method_66_code 5 = .ok (.iconst 1, 1) := by decide +kernel
theorem d22_6 : decode jdk_42_method_66_code 6 = .ok (.ireturn, 1) := by decide +kernel
theorem d22_7 : decode jdk_42_method_66_code 7 = .ok (.aload_n 1, 1) := by decide +kernel
theorem d22_8 : decode jdk_42_method_66_code 8 = .ok (.instanceof 10, 3) := by decide +kernel
theorem w56 {a0 : Array Value} {Z : State} (hw : ∀ d ∈ tables_1, d.before a0 Z = true) : ((Jvm.Cond.classLink "java/lang/String" (10 : Nat) "java/lang/String")).before a0 Z = true := hw _ (List.mem_of_getElem? (i := 56) rfl)
theorem d22_11 : decode jdk_42_method_66_code 11 = .ok (.ifCond .eq 43, 3) := by decide +kernel
theorem d22_14 : decode jdk_42_method_66_code 14 = .ok (.aload_n 1, 1) := by decide +kernel
theorem d22_15 : decode jdk_42_method_66_code 15 = .ok (.checkcast 10, 3) := by decide +kernel
theorem d22_18 : decode jdk_42_method_66_code 18 = .ok (.astore_n 2, 1) := by decide +kernel
theorem d22_19 : decode jdk_42_method_66_code 19 = .ok (.getstatic 38, 3) := by decide +kernel
theorem w19 {a0 : Array Value} {Z : State} (hw : ∀ d ∈ tables_1, d.before a0 Z = true) : ((Jvm.Cond.fieldLink "java/lang/String" (38 : Nat) "java/lang/String" "COMPACT_STRINGS" "Z")).before a0 Z = true := hw _ (List.mem_of_getElem? (i := 19) rfl)
theorem d22_22 : decode jdk_42_method_66_code 22 = .ok (.ifCond .eq 14, 3) := by decide +kernel
theorem d22_25 : decode jdk_42_method_66_code 25 = .ok (.aload_n 0, 1) := by decide +kernel
theorem d22_26 : decode jdk_42_method_66_code 26 = .ok (.getfield 15, 3) := by decide +kernel
theorem w20 {a0 : Array Value} {Z : State} (hw : ∀ d ∈ tables_1, d.before a0 Z = true) : ((Jvm.Cond.fieldLink "java/lang/String" (15 : Nat) "java/lang/String" "coder" "B")).before a0 Z = true := hw _ (List.mem_of_getElem? (i := 20) rfl)
theorem d22_29 : decode jdk_42_method_66_code 29 = .ok (.aload_n 2, 1) := by decide +kernel
theorem d22_30 : decode jdk_42_method_66_code 30 = .ok (.getfield 15, 3) := by decide +kernel
theorem d22_33 : decode jdk_42_method_66_code 33 = .ok (.if_icmp .ne 21, 3) := by decide +kernel
theorem d22_36 : decode jdk_42_method_66_code 36 = .ok (.aload_n 0, 1) := by decide +kernel
theorem d22_37 : decode jdk_42_method_66_code 37 = .ok (.getfield 9, 3) := by decide +kernel
theorem w13 {a0 : Array Value} {Z : State} (hw : ∀ d ∈ tables_1, d.before a0 Z = true) : ((Jvm.Cond.fieldLink "java/lang/String" (9 : Nat) "java/lang/String" "value" "[B")).before a0 Z = true := hw _ (List.mem_of_getElem? (i := 13) rfl)
theorem d22_40 : decode jdk_42_method_66_code 40 = .ok (.aload_n 2, 1) := by decide +kernel
theorem d22_41 : decode jdk_42_method_66_code 41 = .ok (.getfield 9, 3) := by decide +kernel
theorem w150 {a0 : Array Value} {Z : State} (hw : ∀ d ∈ tables_1, d.before a0 Z = true) : ((Jvm.Cond.code ({ cls := "java/lang/StringLatin1", name := "equals", desc := "([B[B)Z" } : Jvm.MethodName) jdk_43_method_13_code (3 : Nat) (Option.some Jvm.ClassFile.FieldType.boolean))).before a0 Z = true := hw _ (List.mem_of_getElem? (i := 150) rfl)
theorem w40 {a0 : Array Value} {Z : State} (hw : ∀ d ∈ tables_1, d.before a0 Z = true) : ((Jvm.Cond.initialized "java/lang/StringLatin1")).before a0 Z = true := hw _ (List.mem_of_getElem? (i := 40) rfl)
theorem pd1 : parseMethodDescriptor "([B[B)Z" = some ⟨[(.array .byte), (.array .byte)], some .boolean⟩ := by decide +kernel
theorem d22_44 : decode jdk_42_method_66_code 44 = .ok (.invokestatic 541, 3) := by decide +kernel
theorem w148 {a0 : Array Value} {Z : State} (hw : ∀ d ∈ tables_1, d.before a0 Z = true) : ((Jvm.Cond.methodLink "java/lang/String" (541 : Nat) ({ cls := "java/lang/StringLatin1", name := "equals", desc := "([B[B)Z" } : Jvm.MethodName))).before a0 Z = true := hw _ (List.mem_of_getElem? (i := 148) rfl)
theorem w149 {a0 : Array Value} {Z : State} (hw : ∀ d ∈ tables_1, d.before a0 Z = true) : ((Jvm.Cond.static ({ cls := "java/lang/StringLatin1", name := "equals", desc := "([B[B)Z" } : Jvm.MethodName))).before a0 Z = true := hw _ (List.mem_of_getElem? (i := 149) rfl)
theorem d22_47 : decode jdk_42_method_66_code 47 = .ok (.ifCond .eq 7, 3) := by decide +kernel
theorem d22_54 : decode jdk_42_method_66_code 54 = .ok (.iconst 0, 1) := by decide +kernel
theorem d22_55 : decode jdk_42_method_66_code 55 = .ok (.ireturn, 1) := by decide +kernel
theorem d22_50 : decode jdk_42_method_66_code 50 = .ok (.iconst 1, 1) := by decide +kernel
theorem d22_51 : decode jdk_42_method_66_code 51 = .ok (.goto 4, 3) := by decide +kernel
def rr_eqStr : Room := { frames := 1, cells := 0, slots := 0, locals := 14 }
theorem pn2 : plainName "java/lang/String" = true := by first | (simp [plainName, overriddenIn]; done) | decide +kernel
set_option maxRecDepth 65536 in
set_option maxHeartbeats 40000000 in
theorem rm_eqStr (l : Launch) (Z : State) (a0 : Array Value) (hw : ∀ d ∈ tables_1, d.before a0 Z = true) (ws : List Jvm.Cond) (a b : Addr) (cd cd' zc : Int32) (bs ds : List Int32) (h0 : Heap) (n0 : Nat) (Z0 : n0 ≤ h0.size) (O0 : Old Z n0 h0) (S1 : StrB Z h0 a cd bs) (S2 : StrB Z h0 b cd' ds) (lb : bs.length < 2 ^ 31) (ld : ds.length < 2 ^ 31) (CS : Sta Z Z.heap "java/lang/String" "COMPACT_STRINGS" "Z" (.int zc)) (hz : ¬ zc = 0) :
    Con l Z (⟨"java/lang/String", "equals", "(Ljava/lang/Object;)Z"⟩ : MethodName) jdk_42_method_66_code 3 (some .boolean) ws rr_eqStr #[(.ref a), (.ref b)] h0 (fun v h L => ∃ r : Int32, v = some (.int r) ∧ ((r = 1 ∧ cd = cd' ∧ bs = ds) ∨ (r = 0 ∧ ¬ (cd = cd' ∧ bs = ds))) ∧ Fr n0 L ∧ h = h0) := by
  refine Con.enter (plainFor_of_name pn2) ?_
  intro p e s m below meth c s₁ X0 hx hZ hby hml hret hlk hown hnm e0
  have N0 := Fr.nil n0
  refine Go.cast (g' := (mkF m 0 #[.val (.ref a), .val (.ref b), .unset] [])) (by first | rfl | (simp [entryFrame, mkF, argsToLocals, Value.category]; done)) ?_
  have S1' := S1
  have S2' := S2
  obtain ⟨t1, k1, E_a, C_a, F_a, V_a⟩ := S1
  obtain ⟨t2, k2, E_b, C_b, F_b, V_b⟩ := S2
  refine Go.st (T' := s₁) (g' := (mkF m 1 #[.val (.ref a), .val (.ref b), .unset] [(.ref a)])) (fun _ zk => XS.aloadN X0.here hx rfl (hb hby d22_0) rfl rfl zk) ?_
  refine Go.st (T' := s₁) (g' := (mkF m 2 #[.val (.ref a), .val (.ref b), .unset] [(.ref b), (.ref a)])) (fun _ zk => XS.aloadN X0.here hx rfl (hb hby d22_1) rfl rfl zk) ?_
  by_cases hc2 : a = b
  · refine Go.st (T' := s₁) (g' := (mkF m 5 #[.val (.ref a), .val (.ref b), .unset] [])) (fun _ zk => Jvm.RoadKit.acmp (g := (mkF m 2 #[.val (.ref a), .val (.ref b), .unset] [(.ref b), (.ref a)])) X0 hx rfl rfl rfl (pc0 := 2) (pc' := 5) (same := true) rfl (hb hby d22_2) rfl (decide_eq_true (congrArg Value.ref hc2)) (by decide) (by decide) zk) ?_
    refine Go.st (T' := s₁) (g' := (mkF m 6 #[.val (.ref a), .val (.ref b), .unset] [(.int (1 : Int32))])) (fun _ zk => XS.iconst X0.here hx rfl (hb hby d22_5) zk) ?_
    refine Go.retN X0 hx hlk hret rfl (by simp) (hb hby d22_6) (by decide) (by decide) e0 ?_
    subst hc2
    exact ⟨_, rfl, Or.inl ⟨rfl, StrB.uniq lb ld S1' S2'⟩, N0, rfl⟩
  · refine Go.st (T' := s₁) (g' := (mkF m 7 #[.val (.ref a), .val (.ref b), .unset] [])) (fun _ zk => Jvm.RoadKit.acmp (g := (mkF m 2 #[.val (.ref a), .val (.ref b), .unset] [(.ref b), (.ref a)])) X0 hx rfl rfl rfl (pc0 := 2) (pc' := 7) (same := false) rfl (hb hby d22_2) rfl (decide_eq_false fun q => hc2 (Value.ref.inj q)) (by decide) (by decide) zk) ?_
    refine Go.st (T' := s₁) (g' := (mkF m 8 #[.val (.ref a), .val (.ref b), .unset] [(.ref b)])) (fun _ zk => XS.aloadN X0.here hx rfl (hb hby d22_7) rfl rfl zk) ?_
    obtain ⟨T1, X1, e1, st1⟩ := instY X0 hx hZ hown (w56 hw) e0 (Ins.self E_b) (g := (mkF m 8 #[.val (.ref a), .val (.ref b), .unset] [(.ref b)])) rfl rfl (hb hby d22_8)
    refine Go.st (T' := T1) (g' := (mkF m 11 #[.val (.ref a), .val (.ref b), .unset] [(.int (1 : Int32))])) (fun _ zk => st1 _ zk) ?_
    refine Go.st (T' := T1) (g' := (mkF m 14 #[.val (.ref a), .val (.ref b), .unset] [])) (fun _ zk => XS.ifNo X1.here hx rfl (hb hby d22_11) rfl ((if0 _ _).trans (feq ((by decide) : ¬ ((1 : Int32) = (0 : Int32)))).1) zk) ?_
    refine Go.st (T' := T1) (g' := (mkF m 15 #[.val (.ref a), .val (.ref b), .unset] [(.ref b)])) (fun _ zk => XS.aloadN X1.here hx rfl (hb hby d22_14) rfl rfl zk) ?_
    obtain ⟨T2, X2, e2, st2⟩ := castY X1 hx hZ hown (w56 hw) e1 (Ins.self E_b) (g := (mkF m 15 #[.val (.ref a), .val (.ref b), .unset] [(.ref b)])) rfl rfl (hb hby d22_15)
    refine Go.st (T' := T2) (g' := (mkF m 18 #[.val (.ref a), .val (.ref b), .unset] [(.ref b)])) (fun _ zk => st2 _ zk) ?_
    refine Go.st (T' := T2) (g' := (mkF m 19 #[.val (.ref a), .val (.ref b), .val (.ref b)] [])) (fun _ zk => XS.astoreN X2.here hx rfl (hb hby d22_18) rfl rfl (l' := #[.val (.ref a), .val (.ref b), .val (.ref b)]) rfl zk) ?_
    obtain ⟨T3, X3, e3, st3⟩ := getS2 X2 hx hZ hown (host := "") (Or.inl (w19 hw)) Via.refl e2 (CS.ext O0.2) (g := (mkF m 19 #[.val (.ref a), .val (.ref b), .val (.ref b)] [])) rfl (hb hby d22_19)
    refine Go.st (T' := T3) (g' := (mkF m 22 #[.val (.ref a), .val (.ref b), .val (.ref b)] [(.int zc)])) (fun _ zk => st3 _ zk) ?_
    refine Go.st (T' := T3) (g' := (mkF m 25 #[.val (.ref a), .val (.ref b), .val (.ref b)] [])) (fun _ zk => XS.ifNo X3.here hx rfl (hb hby d22_22) rfl ((if0 _ _).trans (feq (hz : ¬ (zc = (0 : Int32)))).1) zk) ?_
    refine Go.st (T' := T3) (g' := (mkF m 26 #[.val (.ref a), .val (.ref b), .val (.ref b)] [(.ref a)])) (fun _ zk => XS.aloadN X3.here hx rfl (hb hby d22_25) rfl rfl zk) ?_
    obtain ⟨T4, X4, e4, st4⟩ := getF X3 hx hZ hown (host := "") (Or.inl (w20 hw)) Via.refl e3 C_a (g := (mkF m 26 #[.val (.ref a), .val (.ref b), .val (.ref b)] [(.ref a)])) rfl rfl (hb hby d22_26)
    refine Go.st (T' := T4) (g' := (mkF m 29 #[.val (.ref a), .val (.ref b), .val (.ref b)] [(.int cd)])) (fun _ zk => st4 _ zk) ?_
    refine Go.st (T' := T4) (g' := (mkF m 30 #[.val (.ref a), .val (.ref b), .val (.ref b)] [(.ref b), (.int cd)])) (fun _ zk => XS.aloadN X4.here hx rfl (hb hby d22_29) rfl rfl zk) ?_
    obtain ⟨T5, X5, e5, st5⟩ := getF X4 hx hZ hown (host := "") (Or.inl (w20 hw)) Via.refl e4 C_b (g := (mkF m 30 #[.val (.ref a), .val (.ref b), .val (.ref b)] [(.ref b), (.int cd)])) rfl rfl (hb hby d22_30)
    refine Go.st (T' := T5) (g' := (mkF m 33 #[.val (.ref a), .val (.ref b), .val (.ref b)] [(.int cd'), (.int cd)])) (fun _ zk => st5 _ zk) ?_
    by_cases hc33 : cd = cd'
    · refine Go.st (T' := T5) (g' := (mkF m 36 #[.val (.ref a), .val (.ref b), .val (.ref b)] [])) (fun _ zk => XS.icmpNo X5.here hx rfl (hb hby d22_33) rfl (teq hc33).2 zk) ?_
      refine Go.st (T' := T5) (g' := (mkF m 37 #[.val (.ref a), .val (.ref b), .val (.ref b)] [(.ref a)])) (fun _ zk => XS.aloadN X5.here hx rfl (hb hby d22_36) rfl rfl zk) ?_
      obtain ⟨T6, X6, e6, st6⟩ := getF X5 hx hZ hown (host := "") (Or.inl (w13 hw)) Via.refl e5 F_a (g := (mkF m 37 #[.val (.ref a), .val (.ref b), .val (.ref b)] [(.ref a)])) rfl rfl (hb hby d22_37)
      refine Go.st (T' := T6) (g' := (mkF m 40 #[.val (.ref a), .val (.ref b), .val (.ref b)] [(.ref t1)])) (fun _ zk => st6 _ zk) ?_
      refine Go.st (T' := T6) (g' := (mkF m 41 #[.val (.ref a), .val (.ref b), .val (.ref b)] [(.ref b), (.ref t1)])) (fun _ zk => XS.aloadN X6.here hx rfl (hb hby d22_40) rfl rfl zk) ?_
      obtain ⟨T7, X7, e7, st7⟩ := getF X6 hx hZ hown (host := "") (Or.inl (w13 hw)) Via.refl e6 F_b (g := (mkF m 41 #[.val (.ref a), .val (.ref b), .val (.ref b)] [(.ref b), (.ref t1)])) rfl rfl (hb hby d22_41)
      refine Go.st (T' := T7) (g' := (mkF m 44 #[.val (.ref a), .val (.ref b), .val (.ref b)] [(.ref t2), (.ref t1)])) (fun _ zk => st7 _ zk) ?_
      refine Go.callSt (y := (⟨"java/lang/StringLatin1", "equals", "([B[B)Z"⟩ : MethodName)) X7 hx hZ hown e7 (w148 hw) (w149 hw) (w40 hw) (w150 hw) (by decide) (argsL := [(.ref t1), (.ref t2)]) (rest := []) (W := 0) (rm_eqLatin l Z a0 hw [] t1 t2 k1 k2 bs ds h0 n0 Z0 V_a V_b lb ld) rfl (lenOf pd1 rfl) rfl (by rw [hml]; rfl) rfl (by show 2 * 0 + _ ≤ _; exact Nat.le_of_eq rfl) (by decide) (by decide) (by decide) (by decide) (hb hby d22_44) ?_
      intro v8 T8 h8 L8 X8 e8 q8
      obtain ⟨r8, hv8, hr8, Nf8, hh8⟩ := q8
      subst hv8
      have E8 : T8.heap = h0 := e8.trans hh8
      have N8 := Fr.app N0 Nf8
      show Go p.tables e below _ T8 (mkF m 47 #[.val (.ref a), .val (.ref b), .val (.ref b)] [(.int r8)])
      by_cases hc47 : r8 = (0 : Int32)
      · refine Go.st (T' := T8) (g' := (mkF m 54 #[.val (.ref a), .val (.ref b), .val (.ref b)] [])) (fun _ zk => XS.ifYes X8.here hx rfl (pc0 := 47) (pc' := 54) rfl (hb hby d22_47) rfl ((if0 _ _).trans (teq hc47).1) (by decide) (by decide) zk) ?_
        refine Go.st (T' := T8) (g' := (mkF m 55 #[.val (.ref a), .val (.ref b), .val (.ref b)] [(.int (0 : Int32))])) (fun _ zk => XS.iconst X8.here hx rfl (hb hby d22_54) zk) ?_
        refine Go.retN X8 hx hlk hret rfl (by simp) (hb hby d22_55) (by decide) (by decide) E8 ?_
        rcases hr8 with ⟨hr1, hr2⟩ | ⟨hr1, hr2⟩
        · first | exact ⟨_, rfl, Or.inl ⟨rfl, hc33, hr2⟩, N8, rfl⟩ | exact absurd (hr1.symm.trans hc47) (by decide)
        · first | exact absurd hr1 hc47 | exact ⟨_, rfl, Or.inr ⟨rfl, fun q => hr2 q.2⟩, N8, rfl⟩
      · refine Go.st (T' := T8) (g' := (mkF m 50 #[.val (.ref a), .val (.ref b), .val (.ref b)] [])) (fun _ zk => XS.ifNo X8.here hx rfl (hb hby d22_47) rfl ((if0 _ _).trans (feq hc47).1) zk) ?_
        refine Go.st (T' := T8) (g' := (mkF m 51 #[.val (.ref a), .val (.ref b), .val (.ref b)] [(.int (1 : Int32))])) (fun _ zk => XS.iconst X8.here hx rfl (hb hby d22_50) zk) ?_
        refine Go.st (T' := T8) (g' := (mkF m 55 #[.val (.ref a), .val (.ref b), .val (.ref b)] [(.int (1 : Int32))])) (fun _ zk => XS.goto X8.here hx rfl (pc0 := 51) (pc' := 55) rfl (hb hby d22_51) (by decide) (by decide) zk) ?_
        refine Go.retN X8 hx hlk hret rfl (by simp) (hb hby d22_55) (by decide) (by decide) E8 ?_
        rcases hr8 with ⟨hr1, hr2⟩ | ⟨hr1, hr2⟩
        · first | exact ⟨_, rfl, Or.inl ⟨rfl, hc33, hr2⟩, N8, rfl⟩ | exact absurd (hr1.symm.trans hc47) (by decide)
        · first | exact absurd hr1 hc47 | exact ⟨_, rfl, Or.inr ⟨rfl, fun q => hr2 q.2⟩, N8, rfl⟩
    · refine Go.st (T' := T5) (g' := (mkF m 54 #[.val (.ref a), .val (.ref b), .val (.ref b)] [])) (fun _ zk => XS.icmpYes X5.here hx rfl (pc0 := 33) (pc' := 54) rfl (hb hby d22_33) rfl (feq hc33).2 (by decide) (by decide) zk) ?_
      refine Go.st (T' := T5) (g' := (mkF m 55 #[.val (.ref a), .val (.ref b), .val (.ref b)] [(.int (0 : Int32))])) (fun _ zk => XS.iconst X5.here hx rfl (hb hby d22_54) zk) ?_
      refine Go.retN X5 hx hlk hret rfl (by simp) (hb hby d22_55) (by decide) (by decide) e5 ?_
      exact ⟨_, rfl, Or.inr ⟨rfl, fun q => hc33 q.1⟩, N0, rfl⟩
theorem own_shr0 (x : Int32) : x >>> ((0 : Int32) &&& 31) = x := Int32.toInt_inj.mp (by rw [c_ishr x 0 0 (by decide)]; simp)
def Enc (n : Nat) (cs xs : List Int32) (cd : Int32) : Prop :=
  (cd = 0 ∧ xs.length = n ∧ (∀ i, i < n → ¬ (255 : Int32) < cs.getD i 0) ∧ ∀ i, i < n → xs.getD i 0 = ((cs.getD i 0).toInt8.toInt32)) ∨
  (cd = 1 ∧ xs.length = 2 * n ∧ (∃ i, i < n ∧ (255 : Int32) < cs.getD i 0) ∧ ∀ i, i < n → xs.getD (2 * i) 0 = ((cs.getD i 0).toInt8.toInt32) ∧ xs.getD (2 * i + 1) 0 = (((cs.getD i 0) >>> ((8 : Int32) &&& 31)).toInt8.toInt32))
def StrC (Z : State) (h : Heap) (a : Addr) (n : Nat) (cs : List Int32) : Prop := ∃ (cd : Int32) (xs : List Int32), Enc n cs xs cd ∧ StrB Z h a cd xs
theorem Enc.cd {n : Nat} {cs xs : List Int32} {cd : Int32} (H : Enc n cs xs cd) : cd = 0 ∨ cd = 1 := by
  rcases H with ⟨h, -⟩ | ⟨h, -⟩
  · exact Or.inl h
  · exact Or.inr h
theorem Enc.len {n : Nat} {cs xs : List Int32} {cd : Int32} (H : Enc n cs xs cd) (hn : n < 2 ^ 30) : xs.length < 2 ^ 31 := by
  rcases H with ⟨-, h, -⟩ | ⟨-, h, -⟩ <;> omega
theorem StrC.ext {Z : State} {h h' : Heap} {a : Addr} {n : Nat} {cs : List Int32} (F : StrC Z h a n cs) (E : Ext h h') : StrC Z h' a n cs := by
  obtain ⟨cd, xs, h1, h2⟩ := F
  exact ⟨cd, xs, h1, h2.ext E⟩
theorem StrC.exa {Z : State} {h : Heap} {a : Addr} {n : Nat} {cs : List Int32} (F : StrC Z h a n cs) : Exa Z h a "java/lang/String" := by
  obtain ⟨cd, xs, h1, h2⟩ := F
  exact h2.exa
theorem StrC.wrO {Z : State} {h h' : Heap} {a0 : Array Value} {a b : Addr} {sl : Nat} {v : Value} {C : String} {kk : Nat} {n : Nat} {cs : List Int32} (F : StrC Z h a n cs) (E : Exa Z h b C) (hC : C ≠ "java/lang/String") (wi : (Cond.instantiable C kk).before a0 Z = true) (W : Wr h h' b sl v) : StrC Z h' a n cs := by
  obtain ⟨cd, xs, h1, h2⟩ := F
  exact ⟨cd, xs, h1, h2.wrO E hC wi W⟩
theorem StrC.keepO {Z : State} {h h' : Heap} {a0 : Array Value} {a b : Addr} {C : String} {kk : Nat} {n : Nat} {cs : List Int32} (F : StrC Z h a n cs) (E : Exa Z h b C) (hC : C ≠ "java/lang/String") (wi : (Cond.instantiable C kk).before a0 Z = true) (K : Keep h h' [b]) : StrC Z h' a n cs := by
  obtain ⟨cd, xs, h1, h2⟩ := F
  exact ⟨cd, xs, h1, h2.keepO E hC wi K⟩
theorem own_rg {cs : List Int32} {i n : Nat} (hr : ∀ c ∈ cs, 0 ≤ c.toInt ∧ c.toInt < 65536) (hl : cs.length = n) (hi : i < n) : 0 ≤ (cs.getD i 0).toInt ∧ (cs.getD i 0).toInt < 65536 := by
  have e : cs.getD i 0 = cs[i] := by simp [List.getD_eq_getElem?_getD, hl, hi]
  rw [e]; exact hr _ (List.getElem_mem (by omega))
theorem own_cc {c : Int32} (h : 0 ≤ c.toInt ∧ c.toInt < 65536) : ((((c.toInt8.toInt32 &&& (255 : Int32)) <<< ((0 : Int32) &&& 31)) ||| (((c >>> ((8 : Int32) &&& 31)).toInt8.toInt32 &&& (255 : Int32)) <<< ((8 : Int32) &&& 31))).toUInt32.toUInt16.toUInt32.toInt32) = c := by
  apply Int32.toInt_inj.mp
  have b1 := c_i2b c
  have s8 := c_ishr c 8 8 (by decide)
  have b2 := c_i2b (c >>> ((8 : Int32) &&& 31))
  generalize (c >>> ((8 : Int32) &&& 31)).toInt8.toInt32 = y at *
  generalize c.toInt8.toInt32 = x at *
  have m1 := c_mask x 255 8 (by decide) (by decide)
  have m2 := c_mask y 255 8 (by decide) (by decide)
  generalize x &&& 255 = u at *
  generalize y &&& 255 = t at *
  have l1 := c_ishl u 0 0 (by decide)
  have l2 := c_ishl t 8 8 (by decide)
  generalize u <<< ((0 : Int32) &&& 31) = p at *
  generalize t <<< ((8 : Int32) &&& 31) = q at *
  have r1 := rng32 p
  have r2 := rng32 q
  have o := c_or' p q 8 (by decide) 256 (by decide) (by omega) (by omega) (by omega)
  have r3 := rng32 (p ||| q)
  have i := c_i2c (p ||| q)
  omega
theorem own_u8c {c : Int32} (h : 0 ≤ c.toInt ∧ c.toInt < 65536) (h2 : ¬ (255 : Int32) < c) : ((c.toInt8.toInt32 &&& (255 : Int32)).toUInt32.toUInt16.toUInt32.toInt32) = c := by
  apply Int32.toInt_inj.mp
  have q : ¬ (255 : Int32).toInt < c.toInt := fun z => h2 (Int32.lt_iff_toInt_lt.mpr z)
  have k : (255 : Int32).toInt = 255 := by decide
  have b1 := c_i2b c
  generalize c.toInt8.toInt32 = x at *
  have m1 := c_mask x 255 8 (by decide) (by decide)
  have i := c_i2c (x &&& 255)
  omega
theorem own_shl1 {n : Nat} (h : n < 2 ^ 30) : (Int32.ofNat n) <<< ((1 : Int32) &&& 31) = Int32.ofNat (2 * n) := by
  apply Int32.toInt_inj.mp
  have l := c_ishl (Int32.ofNat n) 1 1 (by decide)
  have r := rng32 ((Int32.ofNat n) <<< ((1 : Int32) &&& 31))
  have e1 : (Int32.ofNat n).toInt = n := Int32.toInt_ofNat_of_lt (by omega)
  have e2 : (Int32.ofNat (2 * n)).toInt = (2 * n : Nat) := Int32.toInt_ofNat_of_lt (by omega)
  omega
theorem own_shr1 {n : Nat} (h : n < 2 ^ 30) : (Int32.ofNat (2 * n)) >>> ((1 : Int32) &&& 31) = Int32.ofNat n := by
  apply Int32.toInt_inj.mp
  have l := c_ishr (Int32.ofNat (2 * n)) 1 1 (by decide)
  have e1 : (Int32.ofNat n).toInt = n := Int32.toInt_ofNat_of_lt (by omega)
  have e2 : (Int32.ofNat (2 * n)).toInt = (2 * n : Nat) := Int32.toInt_ofNat_of_lt (by omega)
  omega
theorem own_cod {n : Nat} {cs xs : List Int32} {cd : Int32} (H : Enc n cs xs cd) (h0 : 0 < n) (hn : n < 2 ^ 30) : (((Int32.ofNat n - Int32.ofNat xs.length).toUInt32 >>> ((31 : Int32) &&& 31).toUInt32).toInt32).toInt8.toInt32 = cd := by
  have e1 : (Int32.ofNat n).toInt = n := Int32.toInt_ofNat_of_lt (by omega)
  have e2 : (Int32.ofNat xs.length).toInt = (xs.length : Nat) := Int32.toInt_ofNat_of_lt (H.len hn)
  have s := c_isub (Int32.ofNat n) (Int32.ofNat xs.length)
  have r := rng32 (Int32.ofNat n - Int32.ofNat xs.length)
  generalize Int32.ofNat n - Int32.ofNat xs.length = y at *
  have u := c_iushr y 31 31 (by decide) (by decide)
  generalize (y.toUInt32 >>> ((31 : Int32) &&& 31).toUInt32).toInt32 = t at *
  have b := c_i2b t
  have k0 : (0 : Int32).toInt = 0 := by decide
  have k1 : (1 : Int32).toInt = 1 := by decide
  apply Int32.toInt_inj.mp
  rcases H with ⟨h, hl, -⟩ | ⟨h, hl, -⟩ <;> rw [h] <;> omega
theorem own_lenC {n : Nat} {cs xs : List Int32} {cd : Int32} (H : Enc n cs xs cd) (hn : n < 2 ^ 30) : (Int32.ofNat xs.length) >>> (cd &&& 31) = Int32.ofNat n := by
  rcases H with ⟨h, hl, -⟩ | ⟨h, hl, -⟩ <;> rw [h, hl]
  · exact own_shr0 _
  · exact own_shr1 hn
theorem own_inv {P : Nat → Int32 → Prop} {xs : List Int32} {i : Nat} {x : Int32} (H : ∀ j, j < i → P j (xs.getD j 0)) (hi : i < xs.length) (hp : P i x) : ∀ j, j < i + 1 → P j ((xs.set i x).getD j 0) := by
  intro j hj
  by_cases q : j = i
  · subst q; rw [List.getD_eq_getElem?_getD, List.getElem?_set_self hi]; exact hp
  · rw [List.getD_eq_getElem?_getD, List.getElem?_set_ne (Ne.symm q), ← List.getD_eq_getElem?_getD]; exact H j (by omega)
theorem own_inv2 {P : Nat → Int32 → Int32 → Prop} {xs : List Int32} {i : Nat} {x y : Int32} (H : ∀ j, j < i → P j (xs.getD (2 * j) 0) (xs.getD (2 * j + 1) 0)) (hi : 2 * i + 1 < xs.length) (hp : P i x y) : ∀ j, j < i + 1 → P j (((xs.set (2 * i) x).set (2 * i + 1) y).getD (2 * j) 0) (((xs.set (2 * i) x).set (2 * i + 1) y).getD (2 * j + 1) 0) := by
  intro j hj
  simp only [List.getD_eq_getElem?_getD] at H ⊢
  by_cases q : j = i
  · subst q
    rw [List.getElem?_set_ne (by omega), List.getElem?_set_self (by omega), List.getElem?_set_self (by rw [List.length_set]; omega)]; exact hp
  · rw [List.getElem?_set_ne (by omega), List.getElem?_set_ne (by omega), List.getElem?_set_ne (by omega), List.getElem?_set_ne (by omega)]; exact H j (by omega)
theorem own_narB {cd : Int32} (h : cd = 0 ∨ cd = 1) : narrow .byte (.int cd) = .int cd := by rcases h with rfl | rfl <;> rfl
theorem own_fitB {cd : Int32} (h : cd = 0 ∨ cd = 1) : fits .byte (.int cd) = true := by rcases h with rfl | rfl <;> rfl
theorem own_posn {n : Nat} (h0 : 0 < n) (hn : n < 2 ^ 30) : ¬ Int32.ofNat n = 0 := fun q => by
  have := own_ofinj (i := n) (n := 0) (by omega) (by decide) q
  omega
theorem own_newA {Z : State} {h : Heap} {a : Addr} {k : ClassId} {n : Nat} (A : Arr Z h a (newA k .byte (Int32.ofNat n)) .byte) (hn : n < 2 ^ 31) : Arv Z h a k .byte (Int32.ofNat n) ((List.replicate n (0 : Int32)).map Value.int) (.int (0 : Int32)) := by
  rw [List.map_replicate]
  exact (Arv.new A (own_ofn0 hn)).pad (pad_rep [] (.int (0 : Int32)) n)
def tabA : List Int32 := [1207963663, 1207963663, 1207963663, 1207963663, 1207963663, 1207963663, 1207963663, 1207963663, 1207963663, 1476411407, 1342193679, 1476411407, 1610629135, 1342193679, 1207963663, 1207963663, 1207963663, 1207963663, 1207963663, 1207963663, 1207963663, 1207963663, 1207963663, 1207963663, 1207963663, 1207963663, 1207963663, 1207963663, 1342193679, 1342193679, 1342193679, 1476411407, 1610629132, 1744830488, 1744830488, 671088664, 671113242, 671088664, 1744830488, 1744830488, -402653163, -402653162, 1744830488, 536870937, 939524120, 536870932, 939524120, 939524120, 402667017, 402667017, 402667017, 402667017, 402667017, 402667017, 402667017, 402667017, 402667017, 402667017, 939524120, 1744830488, -402653159, 1744830489, -402653159, 1744830488, 1744830488, 8552417, 8552417, 8552417, 8552417, 8552417, 8552417, 8552417, 8552417, 8552417, 8552417, 8552417, 8552417, 8552417, 8552417, 8552417, 8552417, 8552417, 8552417, 8552417, 8552417, 8552417, 8552417, 8552417, 8552417, 8552417, 8552417, -402653163, 1744830488, -402653162, 1744830491, 1744850967, 1744830491, 8486882, 8486882, 8486882, 8486882, 8486882, 8486882, 8486882, 8486882, 8486882, 8486882, 8486882, 8486882, 8486882, 8486882, 8486882, 8486882, 8486882, 8486882, 8486882, 8486882, 8486882, 8486882, 8486882, 8486882, 8486882, 8486882, -402653163, 1744830489, -402653162, 1744830489, 1207963663, 1207963663, 1207963663, 1207963663, 1207963663, 1207963663, 1342181391, 1207963663, 1207963663, 1207963663, 1207963663, 1207963663, 1207963663, 1207963663, 1207963663, 1207963663, 1207963663, 1207963663, 1207963663, 1207963663, 1207963663, 1207963663, 1207963663, 1207963663, 1207963663, 1207963663, 1207963663, 1207963663, 1207963663, 1207963663, 1207963663, 1207963663, 1207963663, 939524108, 1744830488, 671113242, 671113242, 671113242, 671113242, 1744830492, 1744830488, 1744830491, 1744830492, 28677, -402653155, 1744830489, 1207963664, 1744830492, 1744830491, 671088668, 671088665, 402654731, 402654731, 1744830491, 134049794, 1744830488, 1744830488, 1744830491, 402654475, 28677, -402653154, 1744832523, 1744832523, 1744832523, 1744830488, 8548353, 8548353, 8548353, 8548353, 8548353, 8548353, 8548353, 8548353, 8548353, 8548353, 8548353, 8548353, 8548353, 8548353, 8548353, 8548353, 8548353, 8548353, 8548353, 8548353, 8548353, 8548353, 8548353, 1744830489, 8548353, 8548353, 8548353, 8548353, 8548353, 8548353, 8548353, 134049794, 8482818, 8482818, 8482818, 8482818, 8482818, 8482818, 8482818, 8482818, 8482818, 8482818, 8482818, 8482818, 8482818, 8482818, 8482818, 8482818, 8482818, 8482818, 8482818, 8482818, 8482818, 8482818, 8482818, 1744830489, 8482818, 8482818, 8482818, 8482818, 8482818, 8482818, 8482818, 102592514]
def WS (u : Int32) : Prop := u = 32 ∨ u = 9 ∨ (tabA.getD u.toNatClampNeg 0 &&& 28672) = 16384
theorem own_u8r (b : Int32) : 0 ≤ ((b &&& (255 : Int32)).toUInt32.toUInt16.toUInt32.toInt32).toInt ∧ ((b &&& (255 : Int32)).toUInt32.toUInt16.toUInt32.toInt32).toInt < 256 := by
  have m := c_mask b 255 8 (by decide) (by decide)
  have q := c_i2c (b &&& 255)
  omega
theorem own_in256 {u : Int32} (h : 0 ≤ u.toInt ∧ u.toInt < 256) : ¬ u < 0 ∧ u < 256 := by
  have e0 : (0 : Int32).toInt = 0 := by decide
  have e1 : (256 : Int32).toInt = 256 := by decide
  constructor <;> rw [Int32.lt_iff_toInt_lt] <;> omega
theorem own_lt256 {u : Int32} (h : 0 ≤ u.toInt ∧ u.toInt < 256) : u.toNatClampNeg < 256 := by simp only [Int32.toNatClampNeg]; omega
theorem own_rr {r : Int32} {P : Prop} (h : (r = 1 ∧ P) ∨ (r = 0 ∧ ¬ P)) (q : ¬ r = 0) : P := by
  rcases h with h | h
  · exact h.2
  · exact absurd h.1 q
theorem own_rr0 {r : Int32} {P : Prop} (h : (r = 1 ∧ P) ∨ (r = 0 ∧ ¬ P)) (q : r = 0) : ¬ P := by
  rcases h with h | h
  · rw [h.1] at q; exact absurd q (by decide)
  · exact h.2
theorem own_pred (i : Nat) (h : i + 1 < 2 ^ 31) : Int32.ofNat (i + 1) - (1 : Int32) = Int32.ofNat i := by
  apply Int32.toInt_inj.mp
  have a := c_isub (Int32.ofNat (i + 1)) 1
  have e1 : (Int32.ofNat (i + 1)).toInt = (i + 1 : Nat) := Int32.toInt_ofNat_of_lt (by omega)
  have e2 : (Int32.ofNat i).toInt = i := Int32.toInt_ofNat_of_lt (by omega)
  have r := rng32 (Int32.ofNat (i + 1) - 1)
  have e3 : (1 : Int32).toInt = 1 := by decide
  omega
theorem own_predm (i : Nat) (h : i + 1 < 2 ^ 31) : Int32.ofNat (i + 1) + (-1 : Int32) = Int32.ofNat i := by
  rw [← own_pred i h]
  apply Int32.toInt_inj.mp
  have a := c_isub (Int32.ofNat (i + 1)) 1
  have b := c_iadd (Int32.ofNat (i + 1)) (-1)
  have r := rng32 (Int32.ofNat (i + 1) - 1)
  have r2 := rng32 (Int32.ofNat (i + 1) + (-1))
  have e3 : (1 : Int32).toInt = 1 := by decide
  have e4 : (-1 : Int32).toInt = -1 := by decide
  omega
theorem own_subn {a b : Nat} (h : a ≤ b) (hb : b < 2 ^ 31) : Int32.ofNat b - Int32.ofNat a = Int32.ofNat (b - a) := by
  apply Int32.toInt_inj.mp
  have q := c_isub (Int32.ofNat b) (Int32.ofNat a)
  have r := rng32 (Int32.ofNat b - Int32.ofNat a)
  have e1 : (Int32.ofNat b).toInt = b := Int32.toInt_ofNat_of_lt (by omega)
  have e2 : (Int32.ofNat a).toInt = a := Int32.toInt_ofNat_of_lt (by omega)
  have e3 : (Int32.ofNat (b - a)).toInt = (b - a : Nat) := Int32.toInt_ofNat_of_lt (by omega)
  omega
theorem own_frC {n0 d n : Nat} (h : n0 ≤ d) : Fr n0 (copyLocs d 0 n) := fun y hy => by rw [copyLocs_base hy]; exact h
theorem d26_0 : decode jdk_52_method_21_code 0 = .ok (.iconst 0, 1) := by decide +kernel
theorem d26_1 : decode jdk_52_method_21_code 1 = .ok (.istore 5, 2) := by decide +kernel
theorem d26_3 : decode jdk_52_method_21_code 3 = .ok (.iload 5, 2) := by decide +kernel
theorem d26_5 : decode jdk_52_method_21_code 5 = .ok (.iload 4, 2) := by decide +kernel
theorem d26_7 : decode jdk_52_method_21_code 7 = .ok (.if_icmp .ge 37, 3) := by decide +kernel
theorem d26_44 : decode jdk_52_method_21_code 44 = .ok (.iload 4, 2) := by decide +kernel
theorem d26_46 : decode jdk_52_method_21_code 46 = .ok (.ireturn, 1) := by decide +kernel
theorem d26_10 : decode jdk_52_method_21_code 10 = .ok (.aload_n 0, 1) := by decide +kernel
theorem d26_11 : decode jdk_52_method_21_code 11 = .ok (.iload_n 1, 1) := by decide +kernel
theorem d26_12 : decode jdk_52_method_21_code 12 = .ok (.caload, 1) := by decide +kernel
theorem d26_13 : decode jdk_52_method_21_code 13 = .ok (.istore 6, 2) := by decide +kernel
theorem d26_15 : decode jdk_52_method_21_code 15 = .ok (.iload 6, 2) := by decide +kernel
theorem d26_17 : decode jdk_52_method_21_code 17 = .ok (.sipush 255, 3) := by decide +kernel
theorem d26_20 : decode jdk_52_method_21_code 20 = .ok (.if_icmp .le 6, 3) := by decide +kernel
theorem d26_23 : decode jdk_52_method_21_code 23 = .ok (.iload 5, 2) := by decide +kernel
theorem d26_25 : decode jdk_52_method_21_code 25 = .ok (.ireturn, 1) := by decide +kernel
theorem d26_26 : decode jdk_52_method_21_code 26 = .ok (.aload_n 2, 1) := by decide +kernel
theorem d26_27 : decode jdk_52_method_21_code 27 = .ok (.iload_n 3, 1) := by decide +kernel
theorem d26_28 : decode jdk_52_method_21_code 28 = .ok (.iload 6, 2) := by decide +kernel
theorem d26_30 : decode jdk_52_method_21_code 30 = .ok (.i2b, 1) := by decide +kernel
theorem d26_31 : decode jdk_52_method_21_code 31 = .ok (.bastore, 1) := by decide +kernel
theorem d26_32 : decode jdk_52_method_21_code 32 = .ok (.iinc 1 1, 3) := by decide +kernel
theorem d26_35 : decode jdk_52_method_21_code 35 = .ok (.iinc 3 1, 3) := by decide +kernel
theorem d26_38 : decode jdk_52_method_21_code 38 = .ok (.iinc 5 1, 3) := by decide +kernel
theorem d26_41 : decode jdk_52_method_21_code 41 = .ok (.goto (-38), 3) := by decide +kernel
def rr_cmp5W : Room := { frames := 0, cells := 0, slots := 0, locals := 0 }
theorem pn3 : plainName "java/lang/StringUTF16" = true := by first | (simp [plainName, overriddenIn]; done) | decide +kernel
set_option maxRecDepth 65536 in
set_option maxHeartbeats 40000000 in
theorem rm_cmp5W (l : Launch) (Z : State) (a0 : Array Value) (hw : ∀ d ∈ tables_1, d.before a0 Z = true) (ws : List Jvm.Cond) (b d : Addr) (kC kB : ClassId) (cs xs0 : List Int32) (n : Nat) (h0 : Heap) (n0 : Nat) (Z0 : n0 ≤ h0.size) (VC : Arv Z h0 b kC .char (Int32.ofNat n) (cs.map Value.int) (.int (0 : Int32))) (VB : Arv Z h0 d kB .byte (Int32.ofNat n) (xs0.map Value.int) (.int (0 : Int32))) (hbd : b ≠ d) (gd : n0 ≤ d) (hxs : xs0.length = n) (hcs : cs.length = n) (hn : n < 2 ^ 30) :
    Con l Z (⟨"java/lang/StringUTF16", "compress", "([CI[BII)I"⟩ : MethodName) jdk_52_method_21_code 7 (some .int) ws rr_cmp5W #[(.ref b), (.int (0 : Int32)), (.ref d), (.int (0 : Int32)), (.int (Int32.ofNat n))] h0 (fun v h L => ∃ j : Nat, v = some (.int (Int32.ofNat j)) ∧ j ≤ n ∧ (j < n → (255 : Int32) < cs.getD j 0) ∧ (∀ i, i < j → ¬ (255 : Int32) < cs.getD i 0) ∧ Fr n0 L ∧ Keep h0 h [d] ∧ ∃ xs : List Int32, xs.length = n ∧ Arv Z h d kB .byte (Int32.ofNat n) (xs.map Value.int) (.int (0 : Int32)) ∧ ∀ i, i < j → xs.getD i 0 = ((cs.getD i 0).toInt8.toInt32)) := by
  refine Con.enter (plainFor_of_name pn3) ?_
  intro p e s m below meth c s₁ X0 hx hZ hby hml hret hlk hown hnm e0
  have N0 := Fr.nil n0
  refine Go.cast (g' := (mkF m 0 #[.val (.ref b), .val (.int (0 : Int32)), .val (.ref d), .val (.int (0 : Int32)), .val (.int (Int32.ofNat n)), .unset, .unset] [])) (by first | rfl | (simp [entryFrame, mkF, argsToLocals, Value.category]; done)) ?_
  refine Go.st (T' := s₁) (g' := (mkF m 1 #[.val (.ref b), .val (.int (0 : Int32)), .val (.ref d), .val (.int (0 : Int32)), .val (.int (Int32.ofNat n)), .unset, .unset] [(.int (0 : Int32))])) (fun _ zk => XS.iconst X0.here hx rfl (hb hby d26_0) zk) ?_
  refine Go.st (T' := s₁) (g' := (mkF m 3 #[.val (.ref b), .val (.int (0 : Int32)), .val (.ref d), .val (.int (0 : Int32)), .val (.int (Int32.ofNat n)), .val (.int (0 : Int32)), .unset] [])) (fun _ zk => XS.istore X0.here hx rfl (hb hby d26_1) rfl (l' := #[.val (.ref b), .val (.int (0 : Int32)), .val (.ref d), .val (.int (0 : Int32)), .val (.int (Int32.ofNat n)), .val (.int (0 : Int32)), .unset]) rfl zk) ?_
  have loop : ∀ (q i : Nat), i + q = n → ∀ (T : State) (lc : List Loc) (hL : Heap) (xs : List Int32) (s6 : Slot), (s6 = .unset ∨ ∃ x, s6 = .val (.int x)) → Stand p l e rr_cmp5W s m #[(.ref b), (.int 0), (.ref d), (.int 0), (.int (Int32.ofNat n))] below meth c T lc 0 0 → T.heap = hL → Fr n0 lc → Keep h0 hL [d] → xs.length = n → Arv Z hL d kB .byte (Int32.ofNat n) (xs.map Value.int) (.int (0 : Int32)) → (∀ j, j < i → ¬ (255 : Int32) < cs.getD j 0 ∧ xs.getD j 0 = ((cs.getD j 0).toInt8.toInt32)) → Go p.tables e below (FinP s (fun v h L => ∃ j : Nat, v = some (.int (Int32.ofNat j)) ∧ j ≤ n ∧ (j < n → (255 : Int32) < cs.getD j 0) ∧ (∀ i, i < j → ¬ (255 : Int32) < cs.getD i 0) ∧ Fr n0 L ∧ Keep h0 h [d] ∧ ∃ xs : List Int32, xs.length = n ∧ Arv Z h d kB .byte (Int32.ofNat n) (xs.map Value.int) (.int (0 : Int32)) ∧ ∀ i, i < j → xs.getD i 0 = ((cs.getD i 0).toInt8.toInt32)) rr_cmp5W.cells rr_cmp5W.slots) T (mkF m 3 #[.val (.ref b), .val (.int (Int32.ofNat i)), .val (.ref d), .val (.int (Int32.ofNat i)), .val (.int (Int32.ofNat n)), .val (.int (Int32.ofNat i)), s6] []) := by
    intro q
    induction q with
    | zero =>
      intro i hi T lc hL xs s6 hs6 XL eL NL KL hl VL inv
      refine Go.st (T' := T) (g' := (mkF m 5 #[.val (.ref b), .val (.int (Int32.ofNat i)), .val (.ref d), .val (.int (Int32.ofNat i)), .val (.int (Int32.ofNat n)), .val (.int (Int32.ofNat i)), s6] [(.int (Int32.ofNat i))])) (fun _ zk => XS.iload XL.here hx rfl (hb hby d26_3) rfl zk) ?_
      refine Go.st (T' := T) (g' := (mkF m 7 #[.val (.ref b), .val (.int (Int32.ofNat i)), .val (.ref d), .val (.int (Int32.ofNat i)), .val (.int (Int32.ofNat n)), .val (.int (Int32.ofNat i)), s6] [(.int (Int32.ofNat n)), (.int (Int32.ofNat i))])) (fun _ zk => XS.iload XL.here hx rfl (hb hby d26_5) rfl zk) ?_
      refine Go.st (T' := T) (g' := (mkF m 44 #[.val (.ref b), .val (.int (Int32.ofNat i)), .val (.ref d), .val (.int (Int32.ofNat i)), .val (.int (Int32.ofNat n)), .val (.int (Int32.ofNat i)), s6] [])) (fun _ zk => XS.icmpYes XL.here hx rfl (pc0 := 7) (pc' := 44) rfl (hb hby d26_7) rfl (flt (own_ofnl (by omega) (by omega) (by omega) : ¬ ((Int32.ofNat i) < (Int32.ofNat n)))).2.1 (by decide) (by decide) zk) ?_
      refine Go.st (T' := T) (g' := (mkF m 46 #[.val (.ref b), .val (.int (Int32.ofNat i)), .val (.ref d), .val (.int (Int32.ofNat i)), .val (.int (Int32.ofNat n)), .val (.int (Int32.ofNat i)), s6] [(.int (Int32.ofNat n))])) (fun _ zk => XS.iload XL.here hx rfl (hb hby d26_44) rfl zk) ?_
      refine Go.retN XL hx hlk hret rfl (by simp) (hb hby d26_46) (by decide) (by decide) eL ?_
      exact ⟨n, rfl, Nat.le_refl _, fun q => absurd q (Nat.lt_irrefl _), fun j q => (inv j (by omega)).1, NL, ((Keep.refl h0 [d]).trans KL (allS (P := fun x => x ∈ [d] ∨ h0.size ≤ x) (Or.inl (List.mem_of_getElem? (i := 0) rfl)) all0)), xs, hl, VL, fun j q => (inv j (by omega)).2⟩
    | succ q ih =>
      intro i hi T lc hL xs s6 hs6 XL eL NL KL hl VL inv
      refine Go.st (T' := T) (g' := (mkF m 5 #[.val (.ref b), .val (.int (Int32.ofNat i)), .val (.ref d), .val (.int (Int32.ofNat i)), .val (.int (Int32.ofNat n)), .val (.int (Int32.ofNat i)), s6] [(.int (Int32.ofNat i))])) (fun _ zk => XS.iload XL.here hx rfl (hb hby d26_3) rfl zk) ?_
      refine Go.st (T' := T) (g' := (mkF m 7 #[.val (.ref b), .val (.int (Int32.ofNat i)), .val (.ref d), .val (.int (Int32.ofNat i)), .val (.int (Int32.ofNat n)), .val (.int (Int32.ofNat i)), s6] [(.int (Int32.ofNat n)), (.int (Int32.ofNat i))])) (fun _ zk => XS.iload XL.here hx rfl (hb hby d26_5) rfl zk) ?_
      refine Go.st (T' := T) (g' := (mkF m 10 #[.val (.ref b), .val (.int (Int32.ofNat i)), .val (.ref d), .val (.int (Int32.ofNat i)), .val (.int (Int32.ofNat n)), .val (.int (Int32.ofNat i)), s6] [])) (fun _ zk => XS.icmpNo XL.here hx rfl (hb hby d26_7) rfl (tlt (own_oflt (by omega) (by omega) : (Int32.ofNat i) < (Int32.ofNat n))).2.1 zk) ?_
      refine Go.st (T' := T) (g' := (mkF m 11 #[.val (.ref b), .val (.int (Int32.ofNat i)), .val (.ref d), .val (.int (Int32.ofNat i)), .val (.int (Int32.ofNat n)), .val (.int (Int32.ofNat i)), s6] [(.ref b)])) (fun _ zk => XS.aloadN XL.here hx rfl (hb hby d26_10) rfl rfl zk) ?_
      refine Go.st (T' := T) (g' := (mkF m 12 #[.val (.ref b), .val (.int (Int32.ofNat i)), .val (.ref d), .val (.int (Int32.ofNat i)), .val (.int (Int32.ofNat n)), .val (.int (Int32.ofNat i)), s6] [(.int (Int32.ofNat i)), (.ref b)])) (fun _ zk => XS.iloadN XL.here hx rfl (hb hby d26_11) rfl zk) ?_
      have f1 := (VC.keep KL (ninS hbd nin0))
      refine Go.st (T' := T) (g' := (mkF m 13 #[.val (.ref b), .val (.int (Int32.ofNat i)), .val (.ref d), .val (.int (Int32.ofNat i)), .val (.int (Int32.ofNat n)), .val (.int (Int32.ofNat i)), s6] [(.int (cs.getD i 0))])) (fun _ zk => ldCV XL hx hZ eL f1 (j := (Int32.ofNat i)) ⟨own_ofn0 (by omega), own_oflt (by omega) (by omega)⟩ (v := (.int (cs.getD i 0))) (by rw [own_clamp (by omega)]; exact own_getD _ _) (g := (mkF m 12 #[.val (.ref b), .val (.int (Int32.ofNat i)), .val (.ref d), .val (.int (Int32.ofNat i)), .val (.int (Int32.ofNat n)), .val (.int (Int32.ofNat i)), s6] [(.int (Int32.ofNat i)), (.ref b)])) rfl (rest := []) rfl (hb hby d26_12) zk) ?_
      refine Go.st (T' := T) (g' := (mkF m 15 #[.val (.ref b), .val (.int (Int32.ofNat i)), .val (.ref d), .val (.int (Int32.ofNat i)), .val (.int (Int32.ofNat n)), .val (.int (Int32.ofNat i)), .val (.int (cs.getD i 0))] [])) (fun _ zk => XS.istore XL.here hx rfl (hb hby d26_13) rfl (l' := #[.val (.ref b), .val (.int (Int32.ofNat i)), .val (.ref d), .val (.int (Int32.ofNat i)), .val (.int (Int32.ofNat n)), .val (.int (Int32.ofNat i)), .val (.int (cs.getD i 0))]) (by rcases hs6 with rfl | ⟨x6, rfl⟩ <;> rfl) zk) ?_
      refine Go.st (T' := T) (g' := (mkF m 17 #[.val (.ref b), .val (.int (Int32.ofNat i)), .val (.ref d), .val (.int (Int32.ofNat i)), .val (.int (Int32.ofNat n)), .val (.int (Int32.ofNat i)), .val (.int (cs.getD i 0))] [(.int (cs.getD i 0))])) (fun _ zk => XS.iload XL.here hx rfl (hb hby d26_15) rfl zk) ?_
      refine Go.st (T' := T) (g' := (mkF m 20 #[.val (.ref b), .val (.int (Int32.ofNat i)), .val (.ref d), .val (.int (Int32.ofNat i)), .val (.int (Int32.ofNat n)), .val (.int (Int32.ofNat i)), .val (.int (cs.getD i 0))] [(.int (255 : Int32)), (.int (cs.getD i 0))])) (fun _ zk => XS.sipush XL.here hx rfl (hb hby d26_17) zk) ?_
      by_cases hc20 : (255 : Int32) < (cs.getD i 0)
      · refine Go.st (T' := T) (g' := (mkF m 23 #[.val (.ref b), .val (.int (Int32.ofNat i)), .val (.ref d), .val (.int (Int32.ofNat i)), .val (.int (Int32.ofNat n)), .val (.int (Int32.ofNat i)), .val (.int (cs.getD i 0))] [])) (fun _ zk => XS.icmpNo XL.here hx rfl (hb hby d26_20) rfl (tlt hc20).2.2.2 zk) ?_
        refine Go.st (T' := T) (g' := (mkF m 25 #[.val (.ref b), .val (.int (Int32.ofNat i)), .val (.ref d), .val (.int (Int32.ofNat i)), .val (.int (Int32.ofNat n)), .val (.int (Int32.ofNat i)), .val (.int (cs.getD i 0))] [(.int (Int32.ofNat i))])) (fun _ zk => XS.iload XL.here hx rfl (hb hby d26_23) rfl zk) ?_
        refine Go.retN XL hx hlk hret rfl (by simp) (hb hby d26_25) (by decide) (by decide) eL ?_
        exact ⟨i, rfl, by omega, fun _ => hc20, fun j q => (inv j q).1, NL, ((Keep.refl h0 [d]).trans KL (allS (P := fun x => x ∈ [d] ∨ h0.size ≤ x) (Or.inl (List.mem_of_getElem? (i := 0) rfl)) all0)), xs, hl, VL, fun j q => (inv j q).2⟩
      · refine Go.st (T' := T) (g' := (mkF m 26 #[.val (.ref b), .val (.int (Int32.ofNat i)), .val (.ref d), .val (.int (Int32.ofNat i)), .val (.int (Int32.ofNat n)), .val (.int (Int32.ofNat i)), .val (.int (cs.getD i 0))] [])) (fun _ zk => XS.icmpYes XL.here hx rfl (pc0 := 20) (pc' := 26) rfl (hb hby d26_20) rfl (flt hc20).2.2.2 (by decide) (by decide) zk) ?_
        refine Go.st (T' := T) (g' := (mkF m 27 #[.val (.ref b), .val (.int (Int32.ofNat i)), .val (.ref d), .val (.int (Int32.ofNat i)), .val (.int (Int32.ofNat n)), .val (.int (Int32.ofNat i)), .val (.int (cs.getD i 0))] [(.ref d)])) (fun _ zk => XS.aloadN XL.here hx rfl (hb hby d26_26) rfl rfl zk) ?_
        refine Go.st (T' := T) (g' := (mkF m 28 #[.val (.ref b), .val (.int (Int32.ofNat i)), .val (.ref d), .val (.int (Int32.ofNat i)), .val (.int (Int32.ofNat n)), .val (.int (Int32.ofNat i)), .val (.int (cs.getD i 0))] [(.int (Int32.ofNat i)), (.ref d)])) (fun _ zk => XS.iloadN XL.here hx rfl (hb hby d26_27) rfl zk) ?_
        refine Go.st (T' := T) (g' := (mkF m 30 #[.val (.ref b), .val (.int (Int32.ofNat i)), .val (.ref d), .val (.int (Int32.ofNat i)), .val (.int (Int32.ofNat n)), .val (.int (Int32.ofNat i)), .val (.int (cs.getD i 0))] [(.int (cs.getD i 0)), (.int (Int32.ofNat i)), (.ref d)])) (fun _ zk => XS.iload XL.here hx rfl (hb hby d26_28) rfl zk) ?_
        refine Go.st (T' := T) (g' := (mkF m 31 #[.val (.ref b), .val (.int (Int32.ofNat i)), .val (.ref d), .val (.int (Int32.ofNat i)), .val (.int (Int32.ofNat n)), .val (.int (Int32.ofNat i)), .val (.int (cs.getD i 0))] [(.int ((cs.getD i 0).toInt8.toInt32)), (.int (Int32.ofNat i)), (.ref d)])) (fun _ zk => XS.i2b XL.here hx rfl (hb hby d26_30) rfl zk) ?_
        obtain ⟨T2, h2, X2, e2, W2, V2, st2⟩ := stBV XL hx hZ eL VL (j := (Int32.ofNat i)) (i := i) ⟨own_ofn0 (by omega), own_oflt (by omega) (by omega)⟩ (own_clamp (by omega)) (by simp only [List.length_map, List.length_set]; omega) (g := (mkF m 31 #[.val (.ref b), .val (.int (Int32.ofNat i)), .val (.ref d), .val (.int (Int32.ofNat i)), .val (.int (Int32.ofNat n)), .val (.int (Int32.ofNat i)), .val (.int (cs.getD i 0))] [(.int ((cs.getD i 0).toInt8.toInt32)), (.int (Int32.ofNat i)), (.ref d)])) rfl rfl (hb hby d26_31)
        rw [nar_b, ← List.map_set] at V2
        have N2 := Fr.snoc X2 NL gd
        refine Go.st (T' := T2) (g' := (mkF m 32 #[.val (.ref b), .val (.int (Int32.ofNat i)), .val (.ref d), .val (.int (Int32.ofNat i)), .val (.int (Int32.ofNat n)), .val (.int (Int32.ofNat i)), .val (.int (cs.getD i 0))] [])) (fun _ zk => st2 _ zk) ?_
        refine Go.st (T' := T2) (g' := (mkF m 35 #[.val (.ref b), .val (.int ((Int32.ofNat i) + (1 : Int32))), .val (.ref d), .val (.int (Int32.ofNat i)), .val (.int (Int32.ofNat n)), .val (.int (Int32.ofNat i)), .val (.int (cs.getD i 0))] [])) (fun _ zk => XS.iinc X2.here hx rfl (hb hby d26_32) rfl (l' := #[.val (.ref b), .val (.int ((Int32.ofNat i) + (1 : Int32))), .val (.ref d), .val (.int (Int32.ofNat i)), .val (.int (Int32.ofNat n)), .val (.int (Int32.ofNat i)), .val (.int (cs.getD i 0))]) rfl zk) ?_
        refine Go.st (T' := T2) (g' := (mkF m 38 #[.val (.ref b), .val (.int ((Int32.ofNat i) + (1 : Int32))), .val (.ref d), .val (.int ((Int32.ofNat i) + (1 : Int32))), .val (.int (Int32.ofNat n)), .val (.int (Int32.ofNat i)), .val (.int (cs.getD i 0))] [])) (fun _ zk => XS.iinc X2.here hx rfl (hb hby d26_35) rfl (l' := #[.val (.ref b), .val (.int ((Int32.ofNat i) + (1 : Int32))), .val (.ref d), .val (.int ((Int32.ofNat i) + (1 : Int32))), .val (.int (Int32.ofNat n)), .val (.int (Int32.ofNat i)), .val (.int (cs.getD i 0))]) rfl zk) ?_
        refine Go.st (T' := T2) (g' := (mkF m 41 #[.val (.ref b), .val (.int ((Int32.ofNat i) + (1 : Int32))), .val (.ref d), .val (.int ((Int32.ofNat i) + (1 : Int32))), .val (.int (Int32.ofNat n)), .val (.int ((Int32.ofNat i) + (1 : Int32))), .val (.int (cs.getD i 0))] [])) (fun _ zk => XS.iinc X2.here hx rfl (hb hby d26_38) rfl (l' := #[.val (.ref b), .val (.int ((Int32.ofNat i) + (1 : Int32))), .val (.ref d), .val (.int ((Int32.ofNat i) + (1 : Int32))), .val (.int (Int32.ofNat n)), .val (.int ((Int32.ofNat i) + (1 : Int32))), .val (.int (cs.getD i 0))]) rfl zk) ?_
        refine Go.st (T' := T2) (g' := (mkF m 3 #[.val (.ref b), .val (.int ((Int32.ofNat i) + (1 : Int32))), .val (.ref d), .val (.int ((Int32.ofNat i) + (1 : Int32))), .val (.int (Int32.ofNat n)), .val (.int ((Int32.ofNat i) + (1 : Int32))), .val (.int (cs.getD i 0))] [])) (fun _ zk => XS.goto X2.here hx rfl (pc0 := 41) (pc' := 3) rfl (hb hby d26_41) (by decide) (by decide) zk) ?_
        rw [own_one]
        exact ih (i + 1) (by omega) _ _ _ _ _ (Or.inr ⟨_, rfl⟩) X2 e2 N2 (((Keep.refl h0 [d]).trans KL (allS (P := fun x => x ∈ [d] ∨ h0.size ≤ x) (Or.inl (List.mem_of_getElem? (i := 0) rfl)) all0)).wr W2 (Or.inl (List.mem_of_getElem? (i := 0) rfl))) (by rw [List.length_set]; exact hl) V2 (own_inv (P := fun j x => ¬ (255 : Int32) < cs.getD j 0 ∧ x = ((cs.getD j 0).toInt8.toInt32)) inv (by omega) ⟨hc20, rfl⟩)
  exact loop n 0 (by omega) _ _ _ _ _ (Or.inl rfl) X0 e0 N0 (Keep.refl h0 [d]) hxs VB (fun j q => absurd q (Nat.not_lt_zero _))
theorem d27_0 : decode jdk_52_method_15_code 0 = .ok (.iload_n 1, 1) := by decide +kernel
theorem d27_1 : decode jdk_52_method_15_code 1 = .ok (.aload_n 0, 1) := by decide +kernel
theorem d27_2 : decode jdk_52_method_15_code 2 = .ok (.arraylength, 1) := by decide +kernel
theorem d27_3 : decode jdk_52_method_15_code 3 = .ok (.isub, 1) := by decide +kernel
theorem d27_4 : decode jdk_52_method_15_code 4 = .ok (.bipush 31, 2) := by decide +kernel
theorem d27_6 : decode jdk_52_method_15_code 6 = .ok (.iushr, 1) := by decide +kernel
theorem d27_7 : decode jdk_52_method_15_code 7 = .ok (.i2b, 1) := by decide +kernel
theorem d27_8 : decode jdk_52_method_15_code 8 = .ok (.ireturn, 1) := by decide +kernel
def rr_codW : Room := { frames := 0, cells := 0, slots := 0, locals := 0 }
set_option maxRecDepth 65536 in
set_option maxHeartbeats 40000000 in
theorem rm_codW (l : Launch) (Z : State) (a0 : Array Value) (hw : ∀ d ∈ tables_1, d.before a0 Z = true) (ws : List Jvm.Cond) (t : Addr) (k : ClassId) (cs xs : List Int32) (cd : Int32) (n : Nat) (h0 : Heap) (n0 : Nat) (Z0 : n0 ≤ h0.size) (V1 : Arv Z h0 t k .byte (Int32.ofNat xs.length) (xs.map Value.int) (.int (0 : Int32))) (He : Enc n cs xs cd) (h0n : 0 < n) (hn : n < 2 ^ 30) :
    Con l Z (⟨"java/lang/StringUTF16", "coderFromArrayLen", "([BI)B"⟩ : MethodName) jdk_52_method_15_code 2 (some .byte) ws rr_codW #[(.ref t), (.int (Int32.ofNat n))] h0 (fun v h L => v = some (.int cd) ∧ Fr n0 L ∧ h = h0) := by
  refine Con.enter (plainFor_of_name pn3) ?_
  intro p e s m below meth c s₁ X0 hx hZ hby hml hret hlk hown hnm e0
  have N0 := Fr.nil n0
  refine Go.cast (g' := (mkF m 0 #[.val (.ref t), .val (.int (Int32.ofNat n))] [])) (by first | rfl | (simp [entryFrame, mkF, argsToLocals, Value.category]; done)) ?_
  refine Go.st (T' := s₁) (g' := (mkF m 1 #[.val (.ref t), .val (.int (Int32.ofNat n))] [(.int (Int32.ofNat n))])) (fun _ zk => XS.iloadN X0.here hx rfl (hb hby d27_0) rfl zk) ?_
  refine Go.st (T' := s₁) (g' := (mkF m 2 #[.val (.ref t), .val (.int (Int32.ofNat n))] [(.ref t), (.int (Int32.ofNat n))])) (fun _ zk => XS.aloadN X0.here hx rfl (hb hby d27_1) rfl rfl zk) ?_
  refine Go.st (T' := s₁) (g' := (mkF m 3 #[.val (.ref t), .val (.int (Int32.ofNat n))] [(.int (Int32.ofNat xs.length)), (.int (Int32.ofNat n))])) (fun _ zk => lenV X0 hx hZ e0 V1 (g := (mkF m 2 #[.val (.ref t), .val (.int (Int32.ofNat n))] [(.ref t), (.int (Int32.ofNat n))])) rfl (rest := [(.int (Int32.ofNat n))]) rfl (hb hby d27_2) zk) ?_
  refine Go.st (T' := s₁) (g' := (mkF m 4 #[.val (.ref t), .val (.int (Int32.ofNat n))] [(.int ((Int32.ofNat n) - (Int32.ofNat xs.length)))])) (fun _ zk => XS.isub X0.here hx rfl (hb hby d27_3) rfl zk) ?_
  refine Go.st (T' := s₁) (g' := (mkF m 6 #[.val (.ref t), .val (.int (Int32.ofNat n))] [(.int (31 : Int32)), (.int ((Int32.ofNat n) - (Int32.ofNat xs.length)))])) (fun _ zk => XS.bipush X0.here hx rfl (hb hby d27_4) zk) ?_
  refine Go.st (T' := s₁) (g' := (mkF m 7 #[.val (.ref t), .val (.int (Int32.ofNat n))] [(.int ((((Int32.ofNat n) - (Int32.ofNat xs.length)).toUInt32 >>> ((31 : Int32) &&& 31).toUInt32).toInt32))])) (fun _ zk => XS.iushr X0.here hx rfl (hb hby d27_6) rfl zk) ?_
  refine Go.st (T' := s₁) (g' := (mkF m 8 #[.val (.ref t), .val (.int (Int32.ofNat n))] [(.int (((((Int32.ofNat n) - (Int32.ofNat xs.length)).toUInt32 >>> ((31 : Int32) &&& 31).toUInt32).toInt32).toInt8.toInt32))])) (fun _ zk => XS.i2b X0.here hx rfl (hb hby d27_7) rfl zk) ?_
  rw [own_cod He h0n hn]
  refine Go.retN X0 hx hlk hret (own_narB He.cd) (by simp) (hb hby d27_8) (by decide) (by decide) e0 ?_
  exact ⟨rfl, N0, rfl⟩
theorem d25_0 : decode jdk_52_method_16_code 0 = .ok (.iload_n 2, 1) := by decide +kernel
theorem w3 {a0 : Array Value} {Z : State} (hw : ∀ d ∈ tables_1, d.before a0 Z = true) : ((Jvm.Cond.arrayClass Jvm.ClassFile.FieldType.byte)).before a0 Z = true := hw _ (List.mem_of_getElem? (i := 3) rfl)
theorem d25_1 : decode jdk_52_method_16_code 1 = .ok (.newarray .byte, 2) := by decide +kernel
theorem d25_3 : decode jdk_52_method_16_code 3 = .ok (.astore_n 3, 1) := by decide +kernel
theorem d25_4 : decode jdk_52_method_16_code 4 = .ok (.aload_n 0, 1) := by decide +kernel
theorem d25_5 : decode jdk_52_method_16_code 5 = .ok (.iload_n 1, 1) := by decide +kernel
theorem d25_6 : decode jdk_52_method_16_code 6 = .ok (.aload_n 3, 1) := by decide +kernel
theorem d25_7 : decode jdk_52_method_16_code 7 = .ok (.iconst 0, 1) := by decide +kernel
theorem d25_8 : decode jdk_52_method_16_code 8 = .ok (.iload_n 2, 1) := by decide +kernel
theorem w121 {a0 : Array Value} {Z : State} (hw : ∀ d ∈ tables_1, d.before a0 Z = true) : ((Jvm.Cond.code ({ cls := "java/lang/StringUTF16", name := "compress", desc := "([CI[BII)I" } : Jvm.MethodName) jdk_52_method_21_code (7 : Nat) (Option.some Jvm.ClassFile.FieldType.int))).before a0 Z = true := hw _ (List.mem_of_getElem? (i := 121) rfl)
theorem w117 {a0 : Array Value} {Z : State} (hw : ∀ d ∈ tables_1, d.before a0 Z = true) : ((Jvm.Cond.initialized "java/lang/StringUTF16")).before a0 Z = true := hw _ (List.mem_of_getElem? (i := 117) rfl)
theorem pd4 : parseMethodDescriptor "([CI[BII)I" = some ⟨[(.array .char), .int, (.array .byte), .int, .int], some .int⟩ := by decide +kernel
theorem d25_9 : decode jdk_52_method_16_code 9 = .ok (.invokestatic 115, 3) := by decide +kernel
theorem w119 {a0 : Array Value} {Z : State} (hw : ∀ d ∈ tables_1, d.before a0 Z = true) : ((Jvm.Cond.methodLink "java/lang/StringUTF16" (115 : Nat) ({ cls := "java/lang/StringUTF16", name := "compress", desc := "([CI[BII)I" } : Jvm.MethodName))).before a0 Z = true := hw _ (List.mem_of_getElem? (i := 119) rfl)
theorem w120 {a0 : Array Value} {Z : State} (hw : ∀ d ∈ tables_1, d.before a0 Z = true) : ((Jvm.Cond.static ({ cls := "java/lang/StringUTF16", name := "compress", desc := "([CI[BII)I" } : Jvm.MethodName))).before a0 Z = true := hw _ (List.mem_of_getElem? (i := 120) rfl)
theorem d25_12 : decode jdk_52_method_16_code 12 = .ok (.istore 4, 2) := by decide +kernel
theorem d25_14 : decode jdk_52_method_16_code 14 = .ok (.iload 4, 2) := by decide +kernel
theorem d25_16 : decode jdk_52_method_16_code 16 = .ok (.iload_n 2, 1) := by decide +kernel
theorem d25_17 : decode jdk_52_method_16_code 17 = .ok (.if_icmp .eq 40, 3) := by decide +kernel
theorem d25_57 : decode jdk_52_method_16_code 57 = .ok (.aload_n 3, 1) := by decide +kernel
theorem d25_58 : decode jdk_52_method_16_code 58 = .ok (.areturn, 1) := by decide +kernel
def rr_cmp3L : Room := { frames := 1, cells := 1, slots := 7, locals := 18 }
set_option maxRecDepth 65536 in
set_option maxHeartbeats 40000000 in
theorem rm_cmp3L (l : Launch) (Z : State) (a0 : Array Value) (hw : ∀ d ∈ tables_1, d.before a0 Z = true) (ws : List Jvm.Cond) (b : Addr) (kC : ClassId) (cs : List Int32) (n : Nat) (h0 : Heap) (n0 : Nat) (Z0 : n0 ≤ h0.size) (VC : Arv Z h0 b kC .char (Int32.ofNat n) (cs.map Value.int) (.int (0 : Int32))) (hcap : n ≤ 7) (hcs : cs.length = n) (hn : n < 2 ^ 30) (hle : ∀ i, i < n → ¬ (255 : Int32) < cs.getD i 0) :
    Con l Z (⟨"java/lang/StringUTF16", "compress", "([CII)[B"⟩ : MethodName) jdk_52_method_16_code 6 (some (.array .byte)) ws rr_cmp3L #[(.ref b), (.int (0 : Int32)), (.int (Int32.ofNat n))] h0 (fun v h L => ∃ (t : Addr) (k : ClassId) (xs : List Int32), v = some (.ref t) ∧ Fr n0 L ∧ Ext h0 h ∧ h0.size ≤ t ∧ xs.length = n ∧ (∀ i, i < n → xs.getD i 0 = ((cs.getD i 0).toInt8.toInt32)) ∧ Arv Z h t k .byte (Int32.ofNat xs.length) (xs.map Value.int) (.int (0 : Int32))) := by
  refine Con.enter (plainFor_of_name pn3) ?_
  intro p e s m below meth c s₁ X0 hx hZ hby hml hret hlk hown hnm e0
  have N0 := Fr.nil n0
  refine Go.cast (g' := (mkF m 0 #[.val (.ref b), .val (.int (0 : Int32)), .val (.int (Int32.ofNat n)), .unset, .unset, .unset] [])) (by first | rfl | (simp [entryFrame, mkF, argsToLocals, Value.category]; done)) ?_
  refine Go.st (T' := s₁) (g' := (mkF m 1 #[.val (.ref b), .val (.int (0 : Int32)), .val (.int (Int32.ofNat n)), .unset, .unset, .unset] [(.int (Int32.ofNat n))])) (fun _ zk => XS.iloadN X0.here hx rfl (hb hby d25_0) rfl zk) ?_
  obtain ⟨T1, h1, k1, X1, e1, E1, A1, st1⟩ := newP (aty := .byte) X0 hx hZ (w3 hw) e0 (g := (mkF m 1 #[.val (.ref b), .val (.int (0 : Int32)), .val (.int (Int32.ofNat n)), .unset, .unset, .unset] [(.int (Int32.ofNat n))])) rfl (hb hby d25_1) rfl (own_ofn0 (by omega)) (cap := 7) (by rw [own_clamp (by omega)]; exact hcap) (by decide) (by decide) (by decide)
  obtain ⟨b1, g1⟩ : ∃ z, z = h0.size := ⟨_, rfl⟩
  rw [← g1] at A1 st1
  have V1 := own_newA A1 (by omega)
  refine Go.st (T' := T1) (g' := (mkF m 3 #[.val (.ref b), .val (.int (0 : Int32)), .val (.int (Int32.ofNat n)), .unset, .unset, .unset] [(.ref b1)])) (fun _ zk => st1 _ zk) ?_
  refine Go.st (T' := T1) (g' := (mkF m 4 #[.val (.ref b), .val (.int (0 : Int32)), .val (.int (Int32.ofNat n)), .val (.ref b1), .unset, .unset] [])) (fun _ zk => XS.astoreN X1.here hx rfl (hb hby d25_3) rfl rfl (l' := #[.val (.ref b), .val (.int (0 : Int32)), .val (.int (Int32.ofNat n)), .val (.ref b1), .unset, .unset]) rfl zk) ?_
  refine Go.st (T' := T1) (g' := (mkF m 5 #[.val (.ref b), .val (.int (0 : Int32)), .val (.int (Int32.ofNat n)), .val (.ref b1), .unset, .unset] [(.ref b)])) (fun _ zk => XS.aloadN X1.here hx rfl (hb hby d25_4) rfl rfl zk) ?_
  refine Go.st (T' := T1) (g' := (mkF m 6 #[.val (.ref b), .val (.int (0 : Int32)), .val (.int (Int32.ofNat n)), .val (.ref b1), .unset, .unset] [(.int (0 : Int32)), (.ref b)])) (fun _ zk => XS.iloadN X1.here hx rfl (hb hby d25_5) rfl zk) ?_
  refine Go.st (T' := T1) (g' := (mkF m 7 #[.val (.ref b), .val (.int (0 : Int32)), .val (.int (Int32.ofNat n)), .val (.ref b1), .unset, .unset] [(.ref b1), (.int (0 : Int32)), (.ref b)])) (fun _ zk => XS.aloadN X1.here hx rfl (hb hby d25_6) rfl rfl zk) ?_
  refine Go.st (T' := T1) (g' := (mkF m 8 #[.val (.ref b), .val (.int (0 : Int32)), .val (.int (Int32.ofNat n)), .val (.ref b1), .unset, .unset] [(.int (0 : Int32)), (.ref b1), (.int (0 : Int32)), (.ref b)])) (fun _ zk => XS.iconst X1.here hx rfl (hb hby d25_7) zk) ?_
  refine Go.st (T' := T1) (g' := (mkF m 9 #[.val (.ref b), .val (.int (0 : Int32)), .val (.int (Int32.ofNat n)), .val (.ref b1), .unset, .unset] [(.int (Int32.ofNat n)), (.int (0 : Int32)), (.ref b1), (.int (0 : Int32)), (.ref b)])) (fun _ zk => XS.iloadN X1.here hx rfl (hb hby d25_8) rfl zk) ?_
  have xt2 : Ext h0 h1 := E1
  have f3 := VC.ext xt2
  refine Go.callSt (y := (⟨"java/lang/StringUTF16", "compress", "([CI[BII)I"⟩ : MethodName)) X1 hx hZ hown e1 (w119 hw) (w120 hw) (w117 hw) (w121 hw) (by decide) (argsL := [(.ref b), (.int (0 : Int32)), (.ref b1), (.int (0 : Int32)), (.int (Int32.ofNat n))]) (rest := []) (W := 0) (rm_cmp5W l Z a0 hw [] b b1 kC k1 cs (List.replicate n (0 : Int32)) n h1 n0 (Nat.le_trans Z0 E1.1) f3 V1 (ne_lt VC.lt (Nat.le_refl _) (Nat.le_of_eq g1.symm)) (Nat.le_trans Z0 (Nat.le_trans (Nat.le_refl _) (Nat.le_of_eq g1.symm))) (by rw [List.length_replicate]) hcs hn) rfl (lenOf pd4 rfl) rfl (by rw [hml]; rfl) rfl (by show 2 * 0 + _ ≤ _; exact Nat.le_of_eq rfl) (by decide) (by decide) (by decide) (by decide) (hb hby d25_9) ?_
  intro v4 T4 h4 L4 X4 e4 q4
  obtain ⟨j, hv4, hj1, hj2, hj3, Nf4, K4, xs, hl, V4, hj4⟩ := q4
  subst hv4
  have N4 := Fr.app N0 Nf4
  have hjn : j = n := Nat.le_antisymm hj1 (Nat.le_of_not_lt fun q => hle j q (hj2 q))
  show Go p.tables e below _ T4 (mkF m 12 #[.val (.ref b), .val (.int (0 : Int32)), .val (.int (Int32.ofNat n)), .val (.ref b1), .unset, .unset] [(.int (Int32.ofNat j))])
  refine Go.st (T' := T4) (g' := (mkF m 14 #[.val (.ref b), .val (.int (0 : Int32)), .val (.int (Int32.ofNat n)), .val (.ref b1), .val (.int (Int32.ofNat j)), .unset] [])) (fun _ zk => XS.istore X4.here hx rfl (hb hby d25_12) rfl (l' := #[.val (.ref b), .val (.int (0 : Int32)), .val (.int (Int32.ofNat n)), .val (.ref b1), .val (.int (Int32.ofNat j)), .unset]) rfl zk) ?_
  refine Go.st (T' := T4) (g' := (mkF m 16 #[.val (.ref b), .val (.int (0 : Int32)), .val (.int (Int32.ofNat n)), .val (.ref b1), .val (.int (Int32.ofNat j)), .unset] [(.int (Int32.ofNat j))])) (fun _ zk => XS.iload X4.here hx rfl (hb hby d25_14) rfl zk) ?_
  refine Go.st (T' := T4) (g' := (mkF m 17 #[.val (.ref b), .val (.int (0 : Int32)), .val (.int (Int32.ofNat n)), .val (.ref b1), .val (.int (Int32.ofNat j)), .unset] [(.int (Int32.ofNat n)), (.int (Int32.ofNat j))])) (fun _ zk => XS.iloadN X4.here hx rfl (hb hby d25_16) rfl zk) ?_
  refine Go.st (T' := T4) (g' := (mkF m 57 #[.val (.ref b), .val (.int (0 : Int32)), .val (.int (Int32.ofNat n)), .val (.ref b1), .val (.int (Int32.ofNat j)), .unset] [])) (fun _ zk => XS.icmpYes X4.here hx rfl (pc0 := 17) (pc' := 57) rfl (hb hby d25_17) rfl (teq (congrArg Int32.ofNat hjn : (Int32.ofNat j) = (Int32.ofNat n))).1 (by decide) (by decide) zk) ?_
  refine Go.st (T' := T4) (g' := (mkF m 58 #[.val (.ref b), .val (.int (0 : Int32)), .val (.int (Int32.ofNat n)), .val (.ref b1), .val (.int (Int32.ofNat j)), .unset] [(.ref b1)])) (fun _ zk => XS.aloadN X4.here hx rfl (hb hby d25_57) rfl rfl zk) ?_
  have xt5 : Ext h0 h4 := (xt2.thenK K4 (allS (P := fun x => h0.size ≤ x) (Nat.le_of_eq g1.symm) all0))
  refine Go.retA X4 hx hlk hret rfl rfl (hb hby d25_58) (by decide) (by decide) e4 ?_
  subst hjn
  refine ⟨_, k1, xs, rfl, N4, xt5, (Nat.le_trans (Nat.le_refl _) (Nat.le_of_eq g1.symm)), hl, hj4, ?_⟩
  rw [hl]; exact V4
theorem d24_0 : decode jdk_42_method_149_code 0 = .ok (.aload_n 0, 1) := by decide +kernel
theorem d24_1 : decode jdk_42_method_149_code 1 = .ok (.invokespecial 1, 3) := by decide +kernel
theorem w64 {a0 : Array Value} {Z : State} (hw : ∀ d ∈ tables_1, d.before a0 Z = true) : ((Jvm.Cond.methodLink "java/lang/String" (1 : Nat) ({ cls := "java/lang/Object", name := "<init>", desc := "()V" } : Jvm.MethodName))).before a0 Z = true := hw _ (List.mem_of_getElem? (i := 64) rfl)
theorem w65 {a0 : Array Value} {Z : State} (hw : ∀ d ∈ tables_1, d.before a0 Z = true) : ((Jvm.Cond.instanceMethod ({ cls := "java/lang/Object", name := "<init>", desc := "()V" } : Jvm.MethodName))).before a0 Z = true := hw _ (List.mem_of_getElem? (i := 65) rfl)
theorem w66 {a0 : Array Value} {Z : State} (hw : ∀ d ∈ tables_1, d.before a0 Z = true) : ((Jvm.Cond.code ({ cls := "java/lang/Object", name := "<init>", desc := "()V" } : Jvm.MethodName) object_method_1_code (1 : Nat) (Option.none : Option Jvm.ClassFile.FieldType))).before a0 Z = true := hw _ (List.mem_of_getElem? (i := 66) rfl)
theorem d24_4 : decode jdk_42_method_149_code 4 = .ok (.iload_n 3, 1) := by decide +kernel
theorem d24_5 : decode jdk_42_method_149_code 5 = .ok (.ifCond .ne 22, 3) := by decide +kernel
theorem d24_27 : decode jdk_42_method_149_code 27 = .ok (.getstatic 38, 3) := by decide +kernel
theorem d24_30 : decode jdk_42_method_149_code 30 = .ok (.ifCond .eq 28, 3) := by decide +kernel
theorem d24_33 : decode jdk_42_method_149_code 33 = .ok (.aload_n 1, 1) := by decide +kernel
theorem d24_34 : decode jdk_42_method_149_code 34 = .ok (.iload_n 2, 1) := by decide +kernel
theorem d24_35 : decode jdk_42_method_149_code 35 = .ok (.iload_n 3, 1) := by decide +kernel
theorem w118 {a0 : Array Value} {Z : State} (hw : ∀ d ∈ tables_1, d.before a0 Z = true) : ((Jvm.Cond.code ({ cls := "java/lang/StringUTF16", name := "compress", desc := "([CII)[B" } : Jvm.MethodName) jdk_52_method_16_code (6 : Nat) (Option.some (Jvm.ClassFile.FieldType.array Jvm.ClassFile.FieldType.byte)))).before a0 Z = true := hw _ (List.mem_of_getElem? (i := 118) rfl)
theorem pd5 : parseMethodDescriptor "([CII)[B" = some ⟨[(.array .char), .int, .int], some (.array .byte)⟩ := by decide +kernel
theorem d24_36 : decode jdk_42_method_149_code 36 = .ok (.invokestatic 177, 3) := by decide +kernel
theorem w115 {a0 : Array Value} {Z : State} (hw : ∀ d ∈ tables_1, d.before a0 Z = true) : ((Jvm.Cond.methodLink "java/lang/String" (177 : Nat) ({ cls := "java/lang/StringUTF16", name := "compress", desc := "([CII)[B" } : Jvm.MethodName))).before a0 Z = true := hw _ (List.mem_of_getElem? (i := 115) rfl)
theorem w116 {a0 : Array Value} {Z : State} (hw : ∀ d ∈ tables_1, d.before a0 Z = true) : ((Jvm.Cond.static ({ cls := "java/lang/StringUTF16", name := "compress", desc := "([CII)[B" } : Jvm.MethodName))).before a0 Z = true := hw _ (List.mem_of_getElem? (i := 116) rfl)
theorem d24_39 : decode jdk_42_method_149_code 39 = .ok (.astore 5, 2) := by decide +kernel
theorem d24_41 : decode jdk_42_method_149_code 41 = .ok (.aload_n 0, 1) := by decide +kernel
theorem d24_42 : decode jdk_42_method_149_code 42 = .ok (.aload 5, 2) := by decide +kernel
theorem d24_44 : decode jdk_42_method_149_code 44 = .ok (.iload_n 3, 1) := by decide +kernel
theorem w124 {a0 : Array Value} {Z : State} (hw : ∀ d ∈ tables_1, d.before a0 Z = true) : ((Jvm.Cond.code ({ cls := "java/lang/StringUTF16", name := "coderFromArrayLen", desc := "([BI)B" } : Jvm.MethodName) jdk_52_method_15_code (2 : Nat) (Option.some Jvm.ClassFile.FieldType.byte))).before a0 Z = true := hw _ (List.mem_of_getElem? (i := 124) rfl)
theorem pd6 : parseMethodDescriptor "([BI)B" = some ⟨[(.array .byte), .int], some .byte⟩ := by decide +kernel
theorem d24_45 : decode jdk_42_method_149_code 45 = .ok (.invokestatic 47, 3) := by decide +kernel
theorem w122 {a0 : Array Value} {Z : State} (hw : ∀ d ∈ tables_1, d.before a0 Z = true) : ((Jvm.Cond.methodLink "java/lang/String" (47 : Nat) ({ cls := "java/lang/StringUTF16", name := "coderFromArrayLen", desc := "([BI)B" } : Jvm.MethodName))).before a0 Z = true := hw _ (List.mem_of_getElem? (i := 122) rfl)
theorem w123 {a0 : Array Value} {Z : State} (hw : ∀ d ∈ tables_1, d.before a0 Z = true) : ((Jvm.Cond.static ({ cls := "java/lang/StringUTF16", name := "coderFromArrayLen", desc := "([BI)B" } : Jvm.MethodName))).before a0 Z = true := hw _ (List.mem_of_getElem? (i := 123) rfl)
theorem d24_48 : decode jdk_42_method_149_code 48 = .ok (.putfield 15, 3) := by decide +kernel
theorem w2 {a0 : Array Value} {Z : State} (hw : ∀ d ∈ tables_1, d.before a0 Z = true) : ((Jvm.Cond.instantiable "java/lang/String" (4 : Nat))).before a0 Z = true := hw _ (List.mem_of_getElem? (i := 2) rfl)
theorem w5 {a0 : Array Value} {Z : State} (hw : ∀ d ∈ tables_1, d.before a0 Z = true) : ((Jvm.Cond.laysFinal "java/lang/String" "java/lang/String" "coder" "B")).before a0 Z = true := hw _ (List.mem_of_getElem? (i := 5) rfl)
theorem d24_51 : decode jdk_42_method_149_code 51 = .ok (.aload_n 0, 1) := by decide +kernel
theorem d24_52 : decode jdk_42_method_149_code 52 = .ok (.aload 5, 2) := by decide +kernel
theorem d24_54 : decode jdk_42_method_149_code 54 = .ok (.putfield 9, 3) := by decide +kernel
theorem w4 {a0 : Array Value} {Z : State} (hw : ∀ d ∈ tables_1, d.before a0 Z = true) : ((Jvm.Cond.laysFinal "java/lang/String" "java/lang/String" "value" "[B")).before a0 Z = true := hw _ (List.mem_of_getElem? (i := 4) rfl)
theorem d24_57 : decode jdk_42_method_149_code 57 = .ok (.return_, 1) := by decide +kernel
def rr_init4L : Room := { frames := 2, cells := 1, slots := 7, locals := 35 }
set_option maxRecDepth 65536 in
set_option maxHeartbeats 40000000 in
theorem rm_init4L (l : Launch) (Z : State) (a0 : Array Value) (hw : ∀ d ∈ tables_1, d.before a0 Z = true) (ws : List Jvm.Cond) (a1 b : Addr) (kC : ClassId) (cs : List Int32) (n : Nat) (zc : Int32) (h0 : Heap) (n0 : Nat) (Z0 : n0 ≤ h0.size) (O0 : Old Z n0 h0) (E0 : Exa Z h0 a1 "java/lang/String") (g0 : n0 ≤ a1) (C0 : Fld Z h0 a1 "java/lang/String" "coder" "B" (.int (0 : Int32))) (V0 : Fld Z h0 a1 "java/lang/String" "value" "[B" .null) (VC : Arv Z h0 b kC .char (Int32.ofNat n) (cs.map Value.int) (.int (0 : Int32))) (hcap : n ≤ 7) (hcs : cs.length = n) (hn : n < 2 ^ 30) (h0n : 0 < n) (hle : ∀ i, i < n → ¬ (255 : Int32) < cs.getD i 0) (CS : Sta Z Z.heap "java/lang/String" "COMPACT_STRINGS" "Z" (.int zc)) (hz : ¬ zc = 0) :
    Con l Z (⟨"java/lang/String", "<init>", "([CIILjava/lang/Void;)V"⟩ : MethodName) jdk_42_method_149_code 6 none ws rr_init4L #[(.ref a1), (.ref b), (.int (0 : Int32)), (.int (Int32.ofNat n)), .null] h0 (fun v h L => v = none ∧ Fr n0 L ∧ Keep h0 h [a1] ∧ ∃ xs : List Int32, xs.length = n ∧ (∀ i, i < n → xs.getD i 0 = ((cs.getD i 0).toInt8.toInt32)) ∧ StrB Z h a1 0 xs) := by
  refine Con.enter (plainFor_of_name pn2) ?_
  intro p e s m below meth c s₁ X0 hx hZ hby hml hret hlk hown hnm e0
  have N0 := Fr.nil n0
  refine Go.cast (g' := (mkF m 0 #[.val (.ref a1), .val (.ref b), .val (.int (0 : Int32)), .val (.int (Int32.ofNat n)), .val .null, .unset] [])) (by first | rfl | (simp [entryFrame, mkF, argsToLocals, Value.category]; done)) ?_
  refine Go.st (T' := s₁) (g' := (mkF m 1 #[.val (.ref a1), .val (.ref b), .val (.int (0 : Int32)), .val (.int (Int32.ofNat n)), .val .null, .unset] [(.ref a1)])) (fun _ zk => XS.aloadN X0.here hx rfl (hb hby d24_0) rfl rfl zk) ?_
  obtain ⟨T1, X1, e1, st1⟩ := initO X0 hx hZ hown (w64 hw) (w65 hw) (w66 hw) e0 (g := (mkF m 1 #[.val (.ref a1), .val (.ref b), .val (.int (0 : Int32)), .val (.int (Int32.ofNat n)), .val .null, .unset] [(.ref a1)])) rfl (by rw [hml]; rfl) rfl (hb hby d24_1) (by decide) (W := 0) (by show 2 * 0 + _ ≤ _; exact Nat.le_of_eq rfl) (by decide)
  refine Go.st (T' := T1) (g' := (mkF m 4 #[.val (.ref a1), .val (.ref b), .val (.int (0 : Int32)), .val (.int (Int32.ofNat n)), .val .null, .unset] [])) (fun _ zk => st1 _ zk) ?_
  refine Go.st (T' := T1) (g' := (mkF m 5 #[.val (.ref a1), .val (.ref b), .val (.int (0 : Int32)), .val (.int (Int32.ofNat n)), .val .null, .unset] [(.int (Int32.ofNat n))])) (fun _ zk => XS.iloadN X1.here hx rfl (hb hby d24_4) rfl zk) ?_
  refine Go.st (T' := T1) (g' := (mkF m 27 #[.val (.ref a1), .val (.ref b), .val (.int (0 : Int32)), .val (.int (Int32.ofNat n)), .val .null, .unset] [])) (fun _ zk => XS.ifYes X1.here hx rfl (pc0 := 5) (pc' := 27) rfl (hb hby d24_5) rfl ((if0 _ _).trans (feq (own_posn h0n hn : ¬ ((Int32.ofNat n) = (0 : Int32)))).2) (by decide) (by decide) zk) ?_
  obtain ⟨T2, X2, e2, st2⟩ := getS2 X1 hx hZ hown (host := "") (Or.inl (w19 hw)) Via.refl e1 (CS.ext O0.2) (g := (mkF m 27 #[.val (.ref a1), .val (.ref b), .val (.int (0 : Int32)), .val (.int (Int32.ofNat n)), .val .null, .unset] [])) rfl (hb hby d24_27)
  refine Go.st (T' := T2) (g' := (mkF m 30 #[.val (.ref a1), .val (.ref b), .val (.int (0 : Int32)), .val (.int (Int32.ofNat n)), .val .null, .unset] [(.int zc)])) (fun _ zk => st2 _ zk) ?_
  refine Go.st (T' := T2) (g' := (mkF m 33 #[.val (.ref a1), .val (.ref b), .val (.int (0 : Int32)), .val (.int (Int32.ofNat n)), .val .null, .unset] [])) (fun _ zk => XS.ifNo X2.here hx rfl (hb hby d24_30) rfl ((if0 _ _).trans (feq (hz : ¬ (zc = (0 : Int32)))).1) zk) ?_
  refine Go.st (T' := T2) (g' := (mkF m 34 #[.val (.ref a1), .val (.ref b), .val (.int (0 : Int32)), .val (.int (Int32.ofNat n)), .val .null, .unset] [(.ref b)])) (fun _ zk => XS.aloadN X2.here hx rfl (hb hby d24_33) rfl rfl zk) ?_
  refine Go.st (T' := T2) (g' := (mkF m 35 #[.val (.ref a1), .val (.ref b), .val (.int (0 : Int32)), .val (.int (Int32.ofNat n)), .val .null, .unset] [(.int (0 : Int32)), (.ref b)])) (fun _ zk => XS.iloadN X2.here hx rfl (hb hby d24_34) rfl zk) ?_
  refine Go.st (T' := T2) (g' := (mkF m 36 #[.val (.ref a1), .val (.ref b), .val (.int (0 : Int32)), .val (.int (Int32.ofNat n)), .val .null, .unset] [(.int (Int32.ofNat n)), (.int (0 : Int32)), (.ref b)])) (fun _ zk => XS.iloadN X2.here hx rfl (hb hby d24_35) rfl zk) ?_
  refine Go.callSt (y := (⟨"java/lang/StringUTF16", "compress", "([CII)[B"⟩ : MethodName)) X2 hx hZ hown e2 (w115 hw) (w116 hw) (w117 hw) (w118 hw) (by decide) (argsL := [(.ref b), (.int (0 : Int32)), (.int (Int32.ofNat n))]) (rest := []) (W := 0) (rm_cmp3L l Z a0 hw [] b kC cs n h0 n0 Z0 VC hcap hcs hn hle) rfl (lenOf pd5 rfl) rfl (by rw [hml]; rfl) rfl (by show 2 * 0 + _ ≤ _; exact Nat.le_of_eq rfl) (by decide) (by decide) (by decide) (by decide) (hb hby d24_36) ?_
  intro v3 T3 h3 L3 X3 e3 q3
  obtain ⟨t, kt, ys, hv3, Nf3, E3, ge3, hy1, hy2, V3⟩ := q3
  subst hv3
  have N3 := Fr.app N0 Nf3
  have He : Enc n cs ys 0 := Or.inl ⟨rfl, hy1, hle, hy2⟩
  show Go p.tables e below _ T3 (mkF m 39 #[.val (.ref a1), .val (.ref b), .val (.int (0 : Int32)), .val (.int (Int32.ofNat n)), .val .null, .unset] [(.ref t)])
  refine Go.st (T' := T3) (g' := (mkF m 41 #[.val (.ref a1), .val (.ref b), .val (.int (0 : Int32)), .val (.int (Int32.ofNat n)), .val .null, .val (.ref t)] [])) (fun _ zk => XS.astore X3.here hx rfl (hb hby d24_39) rfl rfl (l' := #[.val (.ref a1), .val (.ref b), .val (.int (0 : Int32)), .val (.int (Int32.ofNat n)), .val .null, .val (.ref t)]) rfl zk) ?_
  refine Go.st (T' := T3) (g' := (mkF m 42 #[.val (.ref a1), .val (.ref b), .val (.int (0 : Int32)), .val (.int (Int32.ofNat n)), .val .null, .val (.ref t)] [(.ref a1)])) (fun _ zk => XS.aloadN X3.here hx rfl (hb hby d24_41) rfl rfl zk) ?_
  refine Go.st (T' := T3) (g' := (mkF m 44 #[.val (.ref a1), .val (.ref b), .val (.int (0 : Int32)), .val (.int (Int32.ofNat n)), .val .null, .val (.ref t)] [(.ref t), (.ref a1)])) (fun _ zk => XS.aload X3.here hx rfl (hb hby d24_42) rfl rfl zk) ?_
  refine Go.st (T' := T3) (g' := (mkF m 45 #[.val (.ref a1), .val (.ref b), .val (.int (0 : Int32)), .val (.int (Int32.ofNat n)), .val .null, .val (.ref t)] [(.int (Int32.ofNat n)), (.ref t), (.ref a1)])) (fun _ zk => XS.iloadN X3.here hx rfl (hb hby d24_44) rfl zk) ?_
  refine Go.callSt (y := (⟨"java/lang/StringUTF16", "coderFromArrayLen", "([BI)B"⟩ : MethodName)) X3 hx hZ hown e3 (w122 hw) (w123 hw) (w117 hw) (w124 hw) (by decide) (argsL := [(.ref t), (.int (Int32.ofNat n))]) (rest := [(.ref a1)]) (W := 1) (rm_codW l Z a0 hw [] t kt cs ys 0 n h3 n0 (Nat.le_trans Z0 E3.1) V3 He h0n hn) rfl (lenOf pd6 rfl) rfl (by rw [hml]; rfl) rfl (by show 2 * 0 + _ ≤ _; exact Nat.le_of_eq rfl) (by decide) (by decide) (by decide) (by decide) (hb hby d24_45) ?_
  intro v4 T4 h4 L4 X4 e4 q4
  obtain ⟨hv4, Nf4, hh4⟩ := q4
  subst hv4
  have E4 : T4.heap = h3 := e4.trans hh4
  have N4 := Fr.app N3 Nf4
  show Go p.tables e below _ T4 (mkF m 48 #[.val (.ref a1), .val (.ref b), .val (.int (0 : Int32)), .val (.int (Int32.ofNat n)), .val .null, .val (.ref t)] [(.int (0 : Int32)), (.ref a1)])
  have xt6 : Ext h0 h3 := E3
  have f7 := C0.ext xt6
  have f8 := E0.ext xt6
  obtain ⟨T5, h5, X5, e5, W5, st5⟩ := putF X4 hx hZ hown (host := "") (Or.inl (w20 hw)) Via.refl E4 f7 f8 (Or.inr ⟨(w5 hw), rfl, hnm⟩) (w2 hw) (v := (.int (0 : Int32))) (ty := .byte) (by decide) rfl rfl (g := (mkF m 48 #[.val (.ref a1), .val (.ref b), .val (.int (0 : Int32)), .val (.int (Int32.ofNat n)), .val .null, .val (.ref t)] [(.int (0 : Int32)), (.ref a1)])) rfl rfl (hb hby d24_48)
  have F5 := f7.same W5
  have N5 := Fr.snoc X5 N4 g0
  refine Go.st (T' := T5) (g' := (mkF m 51 #[.val (.ref a1), .val (.ref b), .val (.int (0 : Int32)), .val (.int (Int32.ofNat n)), .val .null, .val (.ref t)] [])) (fun _ zk => st5 _ zk) ?_
  refine Go.st (T' := T5) (g' := (mkF m 52 #[.val (.ref a1), .val (.ref b), .val (.int (0 : Int32)), .val (.int (Int32.ofNat n)), .val .null, .val (.ref t)] [(.ref a1)])) (fun _ zk => XS.aloadN X5.here hx rfl (hb hby d24_51) rfl rfl zk) ?_
  refine Go.st (T' := T5) (g' := (mkF m 54 #[.val (.ref a1), .val (.ref b), .val (.int (0 : Int32)), .val (.int (Int32.ofNat n)), .val .null, .val (.ref t)] [(.ref t), (.ref a1)])) (fun _ zk => XS.aload X5.here hx rfl (hb hby d24_52) rfl rfl zk) ?_
  have f10 := ((V0.ext E3).other W5 (Or.inr (slot_ne (Or.inr (w4 hw)) (Or.inr (w5 hw)) (by decide) (t := (.array .byte)) (t' := .byte) (by decide) (by decide))))
  have f11 := (f8.wr W5)
  obtain ⟨T9, h9, X9, e9, W9, st9⟩ := putF X5 hx hZ hown (host := "") (Or.inl (w13 hw)) Via.refl e5 f10 f11 (Or.inr ⟨(w4 hw), rfl, hnm⟩) (w2 hw) (ty := (.array .byte)) (by decide) rfl rfl (g := (mkF m 54 #[.val (.ref a1), .val (.ref b), .val (.int (0 : Int32)), .val (.int (Int32.ofNat n)), .val .null, .val (.ref t)] [(.ref t), (.ref a1)])) rfl rfl (hb hby d24_54)
  have F9 := f10.same W9
  have N9 := Fr.snoc X9 N5 g0
  refine Go.st (T' := T9) (g' := (mkF m 57 #[.val (.ref a1), .val (.ref b), .val (.int (0 : Int32)), .val (.int (Int32.ofNat n)), .val .null, .val (.ref t)] [])) (fun _ zk => st9 _ zk) ?_
  have f12 := (f11.wr W9)
  have f13 := (F5.other W9 (Or.inr (slot_ne (Or.inr (w5 hw)) (Or.inr (w4 hw)) (by decide) (t := .byte) (t' := (.array .byte)) (by decide) (by decide))))
  have f14 := ((V3.other W5 (Ne.symm (ne_lt E0.lt (Nat.le_refl _) ge3))).other W9 (Ne.symm (ne_lt E0.lt (Nat.le_refl _) ge3)))
  refine Go.retV X9 hx hlk hret (hb hby d24_57) (by decide) (by decide) e9 ?_
  exact ⟨rfl, N9, ((((Keep.refl h0 [a1]).ext E3).wr W5 (Or.inl (List.mem_of_getElem? (i := 0) rfl))).wr W9 (Or.inl (List.mem_of_getElem? (i := 0) rfl))), ys, hy1, hy2, t, kt, f12, f13, F9, f14⟩
theorem d23_0 : decode jdk_42_method_3_code 0 = .ok (.aload_n 0, 1) := by decide +kernel
theorem d23_1 : decode jdk_42_method_3_code 1 = .ok (.aload_n 1, 1) := by decide +kernel
theorem d23_2 : decode jdk_42_method_3_code 2 = .ok (.iconst 0, 1) := by decide +kernel
theorem d23_3 : decode jdk_42_method_3_code 3 = .ok (.aload_n 1, 1) := by decide +kernel
theorem d23_4 : decode jdk_42_method_3_code 4 = .ok (.arraylength, 1) := by decide +kernel
theorem d23_5 : decode jdk_42_method_3_code 5 = .ok (.aconst_null, 1) := by decide +kernel
theorem w114 {a0 : Array Value} {Z : State} (hw : ∀ d ∈ tables_1, d.before a0 Z = true) : ((Jvm.Cond.code ({ cls := "java/lang/String", name := "<init>", desc := "([CIILjava/lang/Void;)V" } : Jvm.MethodName) jdk_42_method_149_code (6 : Nat) (Option.none : Option Jvm.ClassFile.FieldType))).before a0 Z = true := hw _ (List.mem_of_getElem? (i := 114) rfl)
theorem w1 {a0 : Array Value} {Z : State} (hw : ∀ d ∈ tables_1, d.before a0 Z = true) : ((Jvm.Cond.initialized "java/lang/String")).before a0 Z = true := hw _ (List.mem_of_getElem? (i := 1) rfl)
theorem pd7 : parseMethodDescriptor "([CIILjava/lang/Void;)V" = some ⟨[(.array .char), .int, .int, (.object "java/lang/Void")], none⟩ := by decide +kernel
theorem d23_6 : decode jdk_42_method_3_code 6 = .ok (.invokespecial 27, 3) := by decide +kernel
theorem w112 {a0 : Array Value} {Z : State} (hw : ∀ d ∈ tables_1, d.before a0 Z = true) : ((Jvm.Cond.methodLink "java/lang/String" (27 : Nat) ({ cls := "java/lang/String", name := "<init>", desc := "([CIILjava/lang/Void;)V" } : Jvm.MethodName))).before a0 Z = true := hw _ (List.mem_of_getElem? (i := 112) rfl)
theorem w113 {a0 : Array Value} {Z : State} (hw : ∀ d ∈ tables_1, d.before a0 Z = true) : ((Jvm.Cond.instanceMethod ({ cls := "java/lang/String", name := "<init>", desc := "([CIILjava/lang/Void;)V" } : Jvm.MethodName))).before a0 Z = true := hw _ (List.mem_of_getElem? (i := 113) rfl)
theorem d23_9 : decode jdk_42_method_3_code 9 = .ok (.return_, 1) := by decide +kernel
def rr_init1L : Room := { frames := 3, cells := 1, slots := 7, locals := 52 }
set_option maxRecDepth 65536 in
set_option maxHeartbeats 40000000 in
theorem rm_init1L (l : Launch) (Z : State) (a0 : Array Value) (hw : ∀ d ∈ tables_1, d.before a0 Z = true) (ws : List Jvm.Cond) (a1 b : Addr) (kC : ClassId) (cs : List Int32) (n : Nat) (zc : Int32) (h0 : Heap) (n0 : Nat) (Z0 : n0 ≤ h0.size) (O0 : Old Z n0 h0) (E0 : Exa Z h0 a1 "java/lang/String") (g0 : n0 ≤ a1) (C0 : Fld Z h0 a1 "java/lang/String" "coder" "B" (.int (0 : Int32))) (V0 : Fld Z h0 a1 "java/lang/String" "value" "[B" .null) (VC : Arv Z h0 b kC .char (Int32.ofNat n) (cs.map Value.int) (.int (0 : Int32))) (hcap : n ≤ 7) (hcs : cs.length = n) (hn : n < 2 ^ 30) (h0n : 0 < n) (hle : ∀ i, i < n → ¬ (255 : Int32) < cs.getD i 0) (CS : Sta Z Z.heap "java/lang/String" "COMPACT_STRINGS" "Z" (.int zc)) (hz : ¬ zc = 0) :
    Con l Z (⟨"java/lang/String", "<init>", "([C)V"⟩ : MethodName) jdk_42_method_3_code 2 none ws rr_init1L #[(.ref a1), (.ref b)] h0 (fun v h L => v = none ∧ Fr n0 L ∧ Keep h0 h [a1] ∧ ∃ xs : List Int32, xs.length = n ∧ (∀ i, i < n → xs.getD i 0 = ((cs.getD i 0).toInt8.toInt32)) ∧ StrB Z h a1 0 xs) := by
  refine Con.enter (plainFor_of_name pn2) ?_
  intro p e s m below meth c s₁ X0 hx hZ hby hml hret hlk hown hnm e0
  have N0 := Fr.nil n0
  refine Go.cast (g' := (mkF m 0 #[.val (.ref a1), .val (.ref b)] [])) (by first | rfl | (simp [entryFrame, mkF, argsToLocals, Value.category]; done)) ?_
  refine Go.st (T' := s₁) (g' := (mkF m 1 #[.val (.ref a1), .val (.ref b)] [(.ref a1)])) (fun _ zk => XS.aloadN X0.here hx rfl (hb hby d23_0) rfl rfl zk) ?_
  refine Go.st (T' := s₁) (g' := (mkF m 2 #[.val (.ref a1), .val (.ref b)] [(.ref b), (.ref a1)])) (fun _ zk => XS.aloadN X0.here hx rfl (hb hby d23_1) rfl rfl zk) ?_
  refine Go.st (T' := s₁) (g' := (mkF m 3 #[.val (.ref a1), .val (.ref b)] [(.int (0 : Int32)), (.ref b), (.ref a1)])) (fun _ zk => XS.iconst X0.here hx rfl (hb hby d23_2) zk) ?_
  refine Go.st (T' := s₁) (g' := (mkF m 4 #[.val (.ref a1), .val (.ref b)] [(.ref b), (.int (0 : Int32)), (.ref b), (.ref a1)])) (fun _ zk => XS.aloadN X0.here hx rfl (hb hby d23_3) rfl rfl zk) ?_
  refine Go.st (T' := s₁) (g' := (mkF m 5 #[.val (.ref a1), .val (.ref b)] [(.int (Int32.ofNat n)), (.int (0 : Int32)), (.ref b), (.ref a1)])) (fun _ zk => lenV X0 hx hZ e0 VC (g := (mkF m 4 #[.val (.ref a1), .val (.ref b)] [(.ref b), (.int (0 : Int32)), (.ref b), (.ref a1)])) rfl (rest := [(.int (0 : Int32)), (.ref b), (.ref a1)]) rfl (hb hby d23_4) zk) ?_
  refine Go.st (T' := s₁) (g' := (mkF m 6 #[.val (.ref a1), .val (.ref b)] [.null, (.int (Int32.ofNat n)), (.int (0 : Int32)), (.ref b), (.ref a1)])) (fun _ zk => XS.aconstNull X0.here hx rfl (hb hby d23_5) zk) ?_
  refine Go.callSp (y := (⟨"java/lang/String", "<init>", "([CIILjava/lang/Void;)V"⟩ : MethodName)) (a := a1) X0 hx hZ hown e0 rfl (w112 hw) (w113 hw) (w1 hw) (w114 hw) (by decide) (argsL := [(.ref b), (.int (0 : Int32)), (.int (Int32.ofNat n)), .null]) (rest := []) (W := 0) (rm_init4L l Z a0 hw [] a1 b kC cs n zc h0 n0 Z0 O0 E0 g0 C0 V0 VC hcap hcs hn h0n hle CS hz) rfl (lenOf pd7 rfl) rfl (by rw [hml]; rfl) rfl (by show 2 * 0 + _ ≤ _; exact Nat.le_of_eq rfl) (by decide) (by decide) (by decide) (by decide) (hb hby d23_6) ?_
  intro v1 T1 h1 L1 X1 e1 q1
  obtain ⟨hv1, Nf1, K1, SC⟩ := q1
  subst hv1
  have N1 := Fr.app N0 Nf1
  show Go p.tables e below _ T1 (mkF m 9 #[.val (.ref a1), .val (.ref b)] [])
  refine Go.retV X1 hx hlk hret (hb hby d23_9) (by decide) (by decide) e1 ?_
  exact ⟨rfl, N1, ((Keep.refl h0 [a1]).trans K1 (allS (P := fun x => x ∈ [a1] ∨ h0.size ≤ x) (Or.inl (List.mem_of_getElem? (i := 0) rfl)) all0)), SC⟩
theorem d20_0 : decode jdk_116_method_1_code 0 = .ok (.iload_n 1, 1) := by decide +kernel
theorem d20_1 : decode jdk_116_method_1_code 1 = .ok (.i2c, 1) := by decide +kernel
theorem d20_2 : decode jdk_116_method_1_code 2 = .ok (.istore_n 2, 1) := by decide +kernel
theorem d20_3 : decode jdk_116_method_1_code 3 = .ok (.getstatic 1, 3) := by decide +kernel
theorem w97 {a0 : Array Value} {Z : State} (hw : ∀ d ∈ tables_1, d.before a0 Z = true) : ((Jvm.Cond.fieldLink "java/lang/CharacterDataLatin1" (1 : Nat) "java/lang/CharacterDataLatin1" "A" "[I")).before a0 Z = true := hw _ (List.mem_of_getElem? (i := 97) rfl)
theorem d20_6 : decode jdk_116_method_1_code 6 = .ok (.iload_n 2, 1) := by decide +kernel
theorem d20_7 : decode jdk_116_method_1_code 7 = .ok (.iaload, 1) := by decide +kernel
theorem d20_8 : decode jdk_116_method_1_code 8 = .ok (.istore_n 3, 1) := by decide +kernel
theorem d20_9 : decode jdk_116_method_1_code 9 = .ok (.iload_n 3, 1) := by decide +kernel
theorem d20_10 : decode jdk_116_method_1_code 10 = .ok (.ireturn, 1) := by decide +kernel
def rr_getProps : Room := { frames := 0, cells := 0, slots := 0, locals := 0 }
theorem pn8 : plainName "java/lang/CharacterDataLatin1" = true := by first | (simp [plainName, overriddenIn]; done) | decide +kernel
set_option maxRecDepth 65536 in
set_option maxHeartbeats 40000000 in
theorem rm_getProps (l : Launch) (Z : State) (a0 : Array Value) (hw : ∀ d ∈ tables_1, d.before a0 Z = true) (ws : List Jvm.Cond) (u : Int32) (ci dA : Addr) (kA : ClassId) (h0 : Heap) (n0 : Nat) (Z0 : n0 ≤ h0.size) (O0 : Old Z n0 h0) (hu : 0 ≤ u.toInt ∧ u.toInt < 256) (SI : Sta Z Z.heap "java/lang/CharacterDataLatin1" "instance" "Ljava/lang/CharacterDataLatin1;" (.ref ci)) (EI : Exa Z Z.heap ci "java/lang/CharacterDataLatin1") (SA : Sta Z Z.heap "java/lang/CharacterDataLatin1" "A" "[I" (.ref dA)) (FA : Arv Z Z.heap dA kA .int (256 : Int32) (tabA.map Value.int) (.int (0 : Int32))) :
    Con l Z (⟨"java/lang/CharacterDataLatin1", "getProperties", "(I)I"⟩ : MethodName) jdk_116_method_1_code 4 (some .int) ws rr_getProps #[(.ref ci), (.int u)] h0 (fun v h L => v = some (.int (tabA.getD u.toNatClampNeg 0)) ∧ Fr n0 L ∧ h = h0) := by
  refine Con.enter (plainFor_of_name pn8) ?_
  intro p e s m below meth c s₁ X0 hx hZ hby hml hret hlk hown hnm e0
  have N0 := Fr.nil n0
  refine Go.cast (g' := (mkF m 0 #[.val (.ref ci), .val (.int u), .unset, .unset] [])) (by first | rfl | (simp [entryFrame, mkF, argsToLocals, Value.category]; done)) ?_
  refine Go.st (T' := s₁) (g' := (mkF m 1 #[.val (.ref ci), .val (.int u), .unset, .unset] [(.int u)])) (fun _ zk => XS.iloadN X0.here hx rfl (hb hby d20_0) rfl zk) ?_
  refine Go.st (T' := s₁) (g' := (mkF m 2 #[.val (.ref ci), .val (.int u), .unset, .unset] [(.int (u.toUInt32.toUInt16.toUInt32.toInt32))])) (fun _ zk => XS.i2c X0.here hx rfl (hb hby d20_1) rfl zk) ?_
  rw [i2c_id (x := u) (by omega)]
  refine Go.st (T' := s₁) (g' := (mkF m 3 #[.val (.ref ci), .val (.int u), .val (.int u), .unset] [])) (fun _ zk => XS.istoreN X0.here hx rfl (hb hby d20_2) rfl (l' := #[.val (.ref ci), .val (.int u), .val (.int u), .unset]) rfl zk) ?_
  obtain ⟨T1, X1, e1, st1⟩ := getS2 X0 hx hZ hown (host := "") (Or.inl (w97 hw)) Via.refl e0 (SA.ext O0.2) (g := (mkF m 3 #[.val (.ref ci), .val (.int u), .val (.int u), .unset] [])) rfl (hb hby d20_3)
  refine Go.st (T' := T1) (g' := (mkF m 6 #[.val (.ref ci), .val (.int u), .val (.int u), .unset] [(.ref dA)])) (fun _ zk => st1 _ zk) ?_
  refine Go.st (T' := T1) (g' := (mkF m 7 #[.val (.ref ci), .val (.int u), .val (.int u), .unset] [(.int u), (.ref dA)])) (fun _ zk => XS.iloadN X1.here hx rfl (hb hby d20_6) rfl zk) ?_
  refine Go.st (T' := T1) (g' := (mkF m 8 #[.val (.ref ci), .val (.int u), .val (.int u), .unset] [(.int (tabA.getD u.toNatClampNeg 0))])) (fun _ zk => ldIV X1 hx hZ e1 (FA.ext O0.2) (j := u) (own_in256 hu) (v := (.int (tabA.getD u.toNatClampNeg 0))) (oc_getD tabA u.toNatClampNeg) (g := (mkF m 7 #[.val (.ref ci), .val (.int u), .val (.int u), .unset] [(.int u), (.ref dA)])) rfl (rest := []) rfl (hb hby d20_7) zk) ?_
  refine Go.st (T' := T1) (g' := (mkF m 9 #[.val (.ref ci), .val (.int u), .val (.int u), .val (.int (tabA.getD u.toNatClampNeg 0))] [])) (fun _ zk => XS.istoreN X1.here hx rfl (hb hby d20_8) rfl (l' := #[.val (.ref ci), .val (.int u), .val (.int u), .val (.int (tabA.getD u.toNatClampNeg 0))]) rfl zk) ?_
  refine Go.st (T' := T1) (g' := (mkF m 10 #[.val (.ref ci), .val (.int u), .val (.int u), .val (.int (tabA.getD u.toNatClampNeg 0))] [(.int (tabA.getD u.toNatClampNeg 0))])) (fun _ zk => XS.iloadN X1.here hx rfl (hb hby d20_9) rfl zk) ?_
  refine Go.retN X1 hx hlk hret rfl (by simp) (hb hby d20_10) (by decide) (by decide) e1 ?_
  exact ⟨rfl, N0, rfl⟩
theorem d19_0 : decode jdk_116_method_26_code 0 = .ok (.aload_n 0, 1) := by decide +kernel
theorem d19_1 : decode jdk_116_method_26_code 1 = .ok (.iload_n 1, 1) := by decide +kernel
theorem w96 {a0 : Array Value} {Z : State} (hw : ∀ d ∈ tables_1, d.before a0 Z = true) : ((Jvm.Cond.code ({ cls := "java/lang/CharacterDataLatin1", name := "getProperties", desc := "(I)I" } : Jvm.MethodName) jdk_116_method_1_code (4 : Nat) (Option.some Jvm.ClassFile.FieldType.int))).before a0 Z = true := hw _ (List.mem_of_getElem? (i := 96) rfl)
theorem w86 {a0 : Array Value} {Z : State} (hw : ∀ d ∈ tables_1, d.before a0 Z = true) : ((Jvm.Cond.initialized "java/lang/CharacterDataLatin1")).before a0 Z = true := hw _ (List.mem_of_getElem? (i := 86) rfl)
theorem pd9 : parseMethodDescriptor "(I)I" = some ⟨[.int], some .int⟩ := by decide +kernel
theorem d19_2 : decode jdk_116_method_26_code 2 = .ok (.invokevirtual 15, 3) := by decide +kernel
theorem w95 {a0 : Array Value} {Z : State} (hw : ∀ d ∈ tables_1, d.before a0 Z = true) : ((Jvm.Cond.selects "java/lang/CharacterDataLatin1" ({ cls := "java/lang/CharacterDataLatin1", name := "getProperties", desc := "(I)I" } : Jvm.MethodName) ({ cls := "java/lang/CharacterDataLatin1", name := "getProperties", desc := "(I)I" } : Jvm.MethodName))).before a0 Z = true := hw _ (List.mem_of_getElem? (i := 95) rfl)
theorem w94 {a0 : Array Value} {Z : State} (hw : ∀ d ∈ tables_1, d.before a0 Z = true) : ((Jvm.Cond.instanceMethod ({ cls := "java/lang/CharacterDataLatin1", name := "getProperties", desc := "(I)I" } : Jvm.MethodName))).before a0 Z = true := hw _ (List.mem_of_getElem? (i := 94) rfl)
theorem w92 {a0 : Array Value} {Z : State} (hw : ∀ d ∈ tables_1, d.before a0 Z = true) : ((Jvm.Cond.methodLink "java/lang/CharacterDataLatin1" (15 : Nat) ({ cls := "java/lang/CharacterDataLatin1", name := "getProperties", desc := "(I)I" } : Jvm.MethodName))).before a0 Z = true := hw _ (List.mem_of_getElem? (i := 92) rfl)
theorem w93 {a0 : Array Value} {Z : State} (hw : ∀ d ∈ tables_1, d.before a0 Z = true) : ((Jvm.Cond.declares ({ cls := "java/lang/CharacterDataLatin1", name := "getProperties", desc := "(I)I" } : Jvm.MethodName))).before a0 Z = true := hw _ (List.mem_of_getElem? (i := 93) rfl)
theorem d19_5 : decode jdk_116_method_26_code 5 = .ok (.istore_n 2, 1) := by decide +kernel
theorem d19_6 : decode jdk_116_method_26_code 6 = .ok (.iload_n 2, 1) := by decide +kernel
theorem d19_7 : decode jdk_116_method_26_code 7 = .ok (.sipush 28672, 3) := by decide +kernel
theorem d19_10 : decode jdk_116_method_26_code 10 = .ok (.iand, 1) := by decide +kernel
theorem d19_11 : decode jdk_116_method_26_code 11 = .ok (.sipush 16384, 3) := by decide +kernel
theorem d19_14 : decode jdk_116_method_26_code 14 = .ok (.if_icmp .ne 7, 3) := by decide +kernel
theorem d19_17 : decode jdk_116_method_26_code 17 = .ok (.iconst 1, 1) := by decide +kernel
theorem d19_18 : decode jdk_116_method_26_code 18 = .ok (.goto 4, 3) := by decide +kernel
theorem d19_22 : decode jdk_116_method_26_code 22 = .ok (.ireturn, 1) := by decide +kernel
theorem d19_21 : decode jdk_116_method_26_code 21 = .ok (.iconst 0, 1) := by decide +kernel
def rr_isWs : Room := { frames := 1, cells := 0, slots := 0, locals := 15 }
set_option maxRecDepth 65536 in
set_option maxHeartbeats 40000000 in
theorem rm_isWs (l : Launch) (Z : State) (a0 : Array Value) (hw : ∀ d ∈ tables_1, d.before a0 Z = true) (ws : List Jvm.Cond) (u : Int32) (ci dA : Addr) (kA : ClassId) (h0 : Heap) (n0 : Nat) (Z0 : n0 ≤ h0.size) (O0 : Old Z n0 h0) (hu : 0 ≤ u.toInt ∧ u.toInt < 256) (SI : Sta Z Z.heap "java/lang/CharacterDataLatin1" "instance" "Ljava/lang/CharacterDataLatin1;" (.ref ci)) (EI : Exa Z Z.heap ci "java/lang/CharacterDataLatin1") (SA : Sta Z Z.heap "java/lang/CharacterDataLatin1" "A" "[I" (.ref dA)) (FA : Arv Z Z.heap dA kA .int (256 : Int32) (tabA.map Value.int) (.int (0 : Int32))) :
    Con l Z (⟨"java/lang/CharacterDataLatin1", "isWhitespace", "(I)Z"⟩ : MethodName) jdk_116_method_26_code 3 (some .boolean) ws rr_isWs #[(.ref ci), (.int u)] h0 (fun v h L => ∃ r : Int32, v = some (.int r) ∧ ((r = 1 ∧ (tabA.getD u.toNatClampNeg 0 &&& 28672) = 16384) ∨ (r = 0 ∧ ¬ (tabA.getD u.toNatClampNeg 0 &&& 28672) = 16384)) ∧ Fr n0 L ∧ h = h0) := by
  refine Con.enter (plainFor_of_name pn8) ?_
  intro p e s m below meth c s₁ X0 hx hZ hby hml hret hlk hown hnm e0
  have N0 := Fr.nil n0
  refine Go.cast (g' := (mkF m 0 #[.val (.ref ci), .val (.int u), .unset] [])) (by first | rfl | (simp [entryFrame, mkF, argsToLocals, Value.category]; done)) ?_
  refine Go.st (T' := s₁) (g' := (mkF m 1 #[.val (.ref ci), .val (.int u), .unset] [(.ref ci)])) (fun _ zk => XS.aloadN X0.here hx rfl (hb hby d19_0) rfl rfl zk) ?_
  refine Go.st (T' := s₁) (g' := (mkF m 2 #[.val (.ref ci), .val (.int u), .unset] [(.int u), (.ref ci)])) (fun _ zk => XS.iloadN X0.here hx rfl (hb hby d19_1) rfl zk) ?_
  refine Go.callV (y := (⟨"java/lang/CharacterDataLatin1", "getProperties", "(I)I"⟩ : MethodName)) (z := (⟨"java/lang/CharacterDataLatin1", "getProperties", "(I)I"⟩ : MethodName)) (C := "java/lang/CharacterDataLatin1") (a := ci) X0 hx hZ hown e0 (w92 hw) (w93 hw) (w95 hw) (w94 hw) (w86 hw) (w96 hw) (notFace_of_selects (args := #[]) (mvT hZ (w95 hw))) (by decide) (EI.ext O0.2) (argsL := [(.int u)]) (rest := []) (W := 0) (rm_getProps l Z a0 hw [] u ci dA kA h0 n0 Z0 O0 hu SI EI SA FA) rfl (lenOf pd9 rfl) rfl (by rw [hml]; rfl) rfl (by show 2 * 0 + _ ≤ _; exact Nat.le_of_eq rfl) (by decide) (by decide) (by decide) (by decide) (hb hby d19_2) ?_
  intro v1 T1 h1 L1 X1 e1 q1
  obtain ⟨hv1, Nf1, hh1⟩ := q1
  subst hv1
  have E1 : T1.heap = h0 := e1.trans hh1
  have N1 := Fr.app N0 Nf1
  show Go p.tables e below _ T1 (mkF m 5 #[.val (.ref ci), .val (.int u), .unset] [(.int (tabA.getD u.toNatClampNeg 0))])
  refine Go.st (T' := T1) (g' := (mkF m 6 #[.val (.ref ci), .val (.int u), .val (.int (tabA.getD u.toNatClampNeg 0))] [])) (fun _ zk => XS.istoreN X1.here hx rfl (hb hby d19_5) rfl (l' := #[.val (.ref ci), .val (.int u), .val (.int (tabA.getD u.toNatClampNeg 0))]) rfl zk) ?_
  refine Go.st (T' := T1) (g' := (mkF m 7 #[.val (.ref ci), .val (.int u), .val (.int (tabA.getD u.toNatClampNeg 0))] [(.int (tabA.getD u.toNatClampNeg 0))])) (fun _ zk => XS.iloadN X1.here hx rfl (hb hby d19_6) rfl zk) ?_
  refine Go.st (T' := T1) (g' := (mkF m 10 #[.val (.ref ci), .val (.int u), .val (.int (tabA.getD u.toNatClampNeg 0))] [(.int (28672 : Int32)), (.int (tabA.getD u.toNatClampNeg 0))])) (fun _ zk => XS.sipush X1.here hx rfl (hb hby d19_7) zk) ?_
  refine Go.st (T' := T1) (g' := (mkF m 11 #[.val (.ref ci), .val (.int u), .val (.int (tabA.getD u.toNatClampNeg 0))] [(.int ((tabA.getD u.toNatClampNeg 0) &&& (28672 : Int32)))])) (fun _ zk => XS.iand X1.here hx rfl (hb hby d19_10) rfl zk) ?_
  refine Go.st (T' := T1) (g' := (mkF m 14 #[.val (.ref ci), .val (.int u), .val (.int (tabA.getD u.toNatClampNeg 0))] [(.int (16384 : Int32)), (.int ((tabA.getD u.toNatClampNeg 0) &&& (28672 : Int32)))])) (fun _ zk => XS.sipush X1.here hx rfl (hb hby d19_11) zk) ?_
  by_cases hc14 : ((tabA.getD u.toNatClampNeg 0) &&& (28672 : Int32)) = (16384 : Int32)
  · refine Go.st (T' := T1) (g' := (mkF m 17 #[.val (.ref ci), .val (.int u), .val (.int (tabA.getD u.toNatClampNeg 0))] [])) (fun _ zk => XS.icmpNo X1.here hx rfl (hb hby d19_14) rfl (teq hc14).2 zk) ?_
    refine Go.st (T' := T1) (g' := (mkF m 18 #[.val (.ref ci), .val (.int u), .val (.int (tabA.getD u.toNatClampNeg 0))] [(.int (1 : Int32))])) (fun _ zk => XS.iconst X1.here hx rfl (hb hby d19_17) zk) ?_
    refine Go.st (T' := T1) (g' := (mkF m 22 #[.val (.ref ci), .val (.int u), .val (.int (tabA.getD u.toNatClampNeg 0))] [(.int (1 : Int32))])) (fun _ zk => XS.goto X1.here hx rfl (pc0 := 18) (pc' := 22) rfl (hb hby d19_18) (by decide) (by decide) zk) ?_
    refine Go.retN X1 hx hlk hret rfl (by simp) (hb hby d19_22) (by decide) (by decide) E1 ?_
    exact ⟨_, rfl, Or.inl ⟨rfl, hc14⟩, N1, rfl⟩
  · refine Go.st (T' := T1) (g' := (mkF m 21 #[.val (.ref ci), .val (.int u), .val (.int (tabA.getD u.toNatClampNeg 0))] [])) (fun _ zk => XS.icmpYes X1.here hx rfl (pc0 := 14) (pc' := 21) rfl (hb hby d19_14) rfl (feq hc14).2 (by decide) (by decide) zk) ?_
    refine Go.st (T' := T1) (g' := (mkF m 22 #[.val (.ref ci), .val (.int u), .val (.int (tabA.getD u.toNatClampNeg 0))] [(.int (0 : Int32))])) (fun _ zk => XS.iconst X1.here hx rfl (hb hby d19_21) zk) ?_
    refine Go.retN X1 hx hlk hret rfl (by simp) (hb hby d19_22) (by decide) (by decide) E1 ?_
    exact ⟨_, rfl, Or.inr ⟨rfl, hc14⟩, N1, rfl⟩
theorem d18_0 : decode jdk_43_method_44_code 0 = .ok (.aload_n 0, 1) := by decide +kernel
theorem d18_1 : decode jdk_43_method_44_code 1 = .ok (.iload_n 1, 1) := by decide +kernel
theorem d18_2 : decode jdk_43_method_44_code 2 = .ok (.baload, 1) := by decide +kernel
theorem d18_3 : decode jdk_43_method_44_code 3 = .ok (.sipush 255, 3) := by decide +kernel
theorem d18_6 : decode jdk_43_method_44_code 6 = .ok (.iand, 1) := by decide +kernel
theorem d18_7 : decode jdk_43_method_44_code 7 = .ok (.i2c, 1) := by decide +kernel
theorem d18_8 : decode jdk_43_method_44_code 8 = .ok (.ireturn, 1) := by decide +kernel
def rr_getCharL : Room := { frames := 0, cells := 0, slots := 0, locals := 0 }
set_option maxRecDepth 65536 in
set_option maxHeartbeats 40000000 in
theorem rm_getCharL (l : Launch) (Z : State) (a0 : Array Value) (hw : ∀ d ∈ tables_1, d.before a0 Z = true) (ws : List Jvm.Cond) (t : Addr) (k : ClassId) (bs : List Int32) (i : Nat) (h0 : Heap) (n0 : Nat) (Z0 : n0 ≤ h0.size) (V1 : Arv Z h0 t k .byte (Int32.ofNat bs.length) (bs.map Value.int) (.int (0 : Int32))) (lb : bs.length < 2 ^ 31) (hi : i < bs.length) :
    Con l Z (⟨"java/lang/StringLatin1", "getChar", "([BI)C"⟩ : MethodName) jdk_43_method_44_code 2 (some .char) ws rr_getCharL #[(.ref t), (.int (Int32.ofNat i))] h0 (fun v h L => v = some (.int (((bs.getD i 0) &&& (255 : Int32)).toUInt32.toUInt16.toUInt32.toInt32)) ∧ Fr n0 L ∧ h = h0) := by
  refine Con.enter (plainFor_of_name pn0) ?_
  intro p e s m below meth c s₁ X0 hx hZ hby hml hret hlk hown hnm e0
  have N0 := Fr.nil n0
  refine Go.cast (g' := (mkF m 0 #[.val (.ref t), .val (.int (Int32.ofNat i))] [])) (by first | rfl | (simp [entryFrame, mkF, argsToLocals, Value.category]; done)) ?_
  refine Go.st (T' := s₁) (g' := (mkF m 1 #[.val (.ref t), .val (.int (Int32.ofNat i))] [(.ref t)])) (fun _ zk => XS.aloadN X0.here hx rfl (hb hby d18_0) rfl rfl zk) ?_
  refine Go.st (T' := s₁) (g' := (mkF m 2 #[.val (.ref t), .val (.int (Int32.ofNat i))] [(.int (Int32.ofNat i)), (.ref t)])) (fun _ zk => XS.iloadN X0.here hx rfl (hb hby d18_1) rfl zk) ?_
  refine Go.st (T' := s₁) (g' := (mkF m 3 #[.val (.ref t), .val (.int (Int32.ofNat i))] [(.int (bs.getD i 0))])) (fun _ zk => ldBV X0 hx hZ e0 V1 (j := (Int32.ofNat i)) ⟨own_ofn0 (by omega), own_oflt (by omega) (by omega)⟩ (v := (.int (bs.getD i 0))) (by rw [own_clamp (by omega)]; exact own_getD _ _) (g := (mkF m 2 #[.val (.ref t), .val (.int (Int32.ofNat i))] [(.int (Int32.ofNat i)), (.ref t)])) rfl (rest := []) rfl (hb hby d18_2) zk) ?_
  refine Go.st (T' := s₁) (g' := (mkF m 6 #[.val (.ref t), .val (.int (Int32.ofNat i))] [(.int (255 : Int32)), (.int (bs.getD i 0))])) (fun _ zk => XS.sipush X0.here hx rfl (hb hby d18_3) zk) ?_
  refine Go.st (T' := s₁) (g' := (mkF m 7 #[.val (.ref t), .val (.int (Int32.ofNat i))] [(.int ((bs.getD i 0) &&& (255 : Int32)))])) (fun _ zk => XS.iand X0.here hx rfl (hb hby d18_6) rfl zk) ?_
  refine Go.st (T' := s₁) (g' := (mkF m 8 #[.val (.ref t), .val (.int (Int32.ofNat i))] [(.int (((bs.getD i 0) &&& (255 : Int32)).toUInt32.toUInt16.toUInt32.toInt32))])) (fun _ zk => XS.i2c X0.here hx rfl (hb hby d18_7) rfl zk) ?_
  refine Go.retN X0 hx hlk hret (congrArg Value.int nar_c) (by simp) (hb hby d18_8) (by decide) (by decide) e0 ?_
  exact ⟨rfl, N0, rfl⟩
theorem d17_0 : decode jdk_43_method_37_code 0 = .ok (.aload_n 0, 1) := by decide +kernel
theorem d17_1 : decode jdk_43_method_37_code 1 = .ok (.arraylength, 1) := by decide +kernel
theorem d17_2 : decode jdk_43_method_37_code 2 = .ok (.istore_n 1, 1) := by decide +kernel
theorem d17_3 : decode jdk_43_method_37_code 3 = .ok (.iconst 0, 1) := by decide +kernel
theorem d17_4 : decode jdk_43_method_37_code 4 = .ok (.istore_n 2, 1) := by decide +kernel
theorem d17_5 : decode jdk_43_method_37_code 5 = .ok (.iload_n 2, 1) := by decide +kernel
theorem d17_6 : decode jdk_43_method_37_code 6 = .ok (.iload_n 1, 1) := by decide +kernel
theorem d17_7 : decode jdk_43_method_37_code 7 = .ok (.if_icmp .ge 40, 3) := by decide +kernel
theorem d17_47 : decode jdk_43_method_37_code 47 = .ok (.iload_n 2, 1) := by decide +kernel
theorem d17_48 : decode jdk_43_method_37_code 48 = .ok (.ireturn, 1) := by decide +kernel
theorem d17_10 : decode jdk_43_method_37_code 10 = .ok (.aload_n 0, 1) := by decide +kernel
theorem d17_11 : decode jdk_43_method_37_code 11 = .ok (.iload_n 2, 1) := by decide +kernel
theorem w84 {a0 : Array Value} {Z : State} (hw : ∀ d ∈ tables_1, d.before a0 Z = true) : ((Jvm.Cond.code ({ cls := "java/lang/StringLatin1", name := "getChar", desc := "([BI)C" } : Jvm.MethodName) jdk_43_method_44_code (2 : Nat) (Option.some Jvm.ClassFile.FieldType.char))).before a0 Z = true := hw _ (List.mem_of_getElem? (i := 84) rfl)
theorem pd10 : parseMethodDescriptor "([BI)C" = some ⟨[(.array .byte), .int], some .char⟩ := by decide +kernel
theorem d17_12 : decode jdk_43_method_37_code 12 = .ok (.invokestatic 50, 3) := by decide +kernel
theorem w82 {a0 : Array Value} {Z : State} (hw : ∀ d ∈ tables_1, d.before a0 Z = true) : ((Jvm.Cond.methodLink "java/lang/StringLatin1" (50 : Nat) ({ cls := "java/lang/StringLatin1", name := "getChar", desc := "([BI)C" } : Jvm.MethodName))).before a0 Z = true := hw _ (List.mem_of_getElem? (i := 82) rfl)
theorem w83 {a0 : Array Value} {Z : State} (hw : ∀ d ∈ tables_1, d.before a0 Z = true) : ((Jvm.Cond.static ({ cls := "java/lang/StringLatin1", name := "getChar", desc := "([BI)C" } : Jvm.MethodName))).before a0 Z = true := hw _ (List.mem_of_getElem? (i := 83) rfl)
theorem d17_15 : decode jdk_43_method_37_code 15 = .ok (.istore_n 3, 1) := by decide +kernel
theorem d17_16 : decode jdk_43_method_37_code 16 = .ok (.iload_n 3, 1) := by decide +kernel
theorem d17_17 : decode jdk_43_method_37_code 17 = .ok (.bipush 32, 2) := by decide +kernel
theorem d17_19 : decode jdk_43_method_37_code 19 = .ok (.if_icmp .eq 22, 3) := by decide +kernel
theorem d17_41 : decode jdk_43_method_37_code 41 = .ok (.iinc 2 1, 3) := by decide +kernel
theorem d17_44 : decode jdk_43_method_37_code 44 = .ok (.goto (-39), 3) := by decide +kernel
theorem d17_22 : decode jdk_43_method_37_code 22 = .ok (.iload_n 3, 1) := by decide +kernel
theorem d17_23 : decode jdk_43_method_37_code 23 = .ok (.bipush 9, 2) := by decide +kernel
theorem d17_25 : decode jdk_43_method_37_code 25 = .ok (.if_icmp .eq 16, 3) := by decide +kernel
theorem d17_28 : decode jdk_43_method_37_code 28 = .ok (.getstatic 66, 3) := by decide +kernel
theorem w85 {a0 : Array Value} {Z : State} (hw : ∀ d ∈ tables_1, d.before a0 Z = true) : ((Jvm.Cond.fieldLink "java/lang/StringLatin1" (66 : Nat) "java/lang/CharacterDataLatin1" "instance" "Ljava/lang/CharacterDataLatin1;")).before a0 Z = true := hw _ (List.mem_of_getElem? (i := 85) rfl)
theorem d17_31 : decode jdk_43_method_37_code 31 = .ok (.iload_n 3, 1) := by decide +kernel
theorem w91 {a0 : Array Value} {Z : State} (hw : ∀ d ∈ tables_1, d.before a0 Z = true) : ((Jvm.Cond.code ({ cls := "java/lang/CharacterDataLatin1", name := "isWhitespace", desc := "(I)Z" } : Jvm.MethodName) jdk_116_method_26_code (3 : Nat) (Option.some Jvm.ClassFile.FieldType.boolean))).before a0 Z = true := hw _ (List.mem_of_getElem? (i := 91) rfl)
theorem pd11 : parseMethodDescriptor "(I)Z" = some ⟨[.int], some .boolean⟩ := by decide +kernel
theorem d17_32 : decode jdk_43_method_37_code 32 = .ok (.invokevirtual 211, 3) := by decide +kernel
theorem w90 {a0 : Array Value} {Z : State} (hw : ∀ d ∈ tables_1, d.before a0 Z = true) : ((Jvm.Cond.selects "java/lang/CharacterDataLatin1" ({ cls := "java/lang/CharacterDataLatin1", name := "isWhitespace", desc := "(I)Z" } : Jvm.MethodName) ({ cls := "java/lang/CharacterDataLatin1", name := "isWhitespace", desc := "(I)Z" } : Jvm.MethodName))).before a0 Z = true := hw _ (List.mem_of_getElem? (i := 90) rfl)
theorem w89 {a0 : Array Value} {Z : State} (hw : ∀ d ∈ tables_1, d.before a0 Z = true) : ((Jvm.Cond.instanceMethod ({ cls := "java/lang/CharacterDataLatin1", name := "isWhitespace", desc := "(I)Z" } : Jvm.MethodName))).before a0 Z = true := hw _ (List.mem_of_getElem? (i := 89) rfl)
theorem w87 {a0 : Array Value} {Z : State} (hw : ∀ d ∈ tables_1, d.before a0 Z = true) : ((Jvm.Cond.methodLink "java/lang/StringLatin1" (211 : Nat) ({ cls := "java/lang/CharacterDataLatin1", name := "isWhitespace", desc := "(I)Z" } : Jvm.MethodName))).before a0 Z = true := hw _ (List.mem_of_getElem? (i := 87) rfl)
theorem w88 {a0 : Array Value} {Z : State} (hw : ∀ d ∈ tables_1, d.before a0 Z = true) : ((Jvm.Cond.declares ({ cls := "java/lang/CharacterDataLatin1", name := "isWhitespace", desc := "(I)Z" } : Jvm.MethodName))).before a0 Z = true := hw _ (List.mem_of_getElem? (i := 88) rfl)
theorem d17_35 : decode jdk_43_method_37_code 35 = .ok (.ifCond .ne 6, 3) := by decide +kernel
theorem d17_38 : decode jdk_43_method_37_code 38 = .ok (.goto 9, 3) := by decide +kernel
def rr_inw : Room := { frames := 2, cells := 0, slots := 0, locals := 29 }
set_option maxRecDepth 65536 in
set_option maxHeartbeats 40000000 in
theorem rm_inw (l : Launch) (Z : State) (a0 : Array Value) (hw : ∀ d ∈ tables_1, d.before a0 Z = true) (ws : List Jvm.Cond) (t : Addr) (k : ClassId) (bs : List Int32) (ci dA : Addr) (kA : ClassId) (h0 : Heap) (n0 : Nat) (Z0 : n0 ≤ h0.size) (O0 : Old Z n0 h0) (V1 : Arv Z h0 t k .byte (Int32.ofNat bs.length) (bs.map Value.int) (.int (0 : Int32))) (lb : bs.length < 2 ^ 31) (SI : Sta Z Z.heap "java/lang/CharacterDataLatin1" "instance" "Ljava/lang/CharacterDataLatin1;" (.ref ci)) (EI : Exa Z Z.heap ci "java/lang/CharacterDataLatin1") (SA : Sta Z Z.heap "java/lang/CharacterDataLatin1" "A" "[I" (.ref dA)) (FA : Arv Z Z.heap dA kA .int (256 : Int32) (tabA.map Value.int) (.int (0 : Int32))) :
    Con l Z (⟨"java/lang/StringLatin1", "indexOfNonWhitespace", "([B)I"⟩ : MethodName) jdk_43_method_37_code 4 (some .int) ws rr_inw #[(.ref t)] h0 (fun v h L => ∃ j : Nat, v = some (.int (Int32.ofNat j)) ∧ j ≤ bs.length ∧ (∀ i, i < j → WS (((bs.getD i 0) &&& (255 : Int32)).toUInt32.toUInt16.toUInt32.toInt32)) ∧ (j < bs.length → ¬ WS (((bs.getD j 0) &&& (255 : Int32)).toUInt32.toUInt16.toUInt32.toInt32)) ∧ Fr n0 L ∧ h = h0) := by
  refine Con.enter (plainFor_of_name pn0) ?_
  intro p e s m below meth c s₁ X0 hx hZ hby hml hret hlk hown hnm e0
  have N0 := Fr.nil n0
  refine Go.cast (g' := (mkF m 0 #[.val (.ref t), .unset, .unset, .unset] [])) (by first | rfl | (simp [entryFrame, mkF, argsToLocals, Value.category]; done)) ?_
  refine Go.st (T' := s₁) (g' := (mkF m 1 #[.val (.ref t), .unset, .unset, .unset] [(.ref t)])) (fun _ zk => XS.aloadN X0.here hx rfl (hb hby d17_0) rfl rfl zk) ?_
  refine Go.st (T' := s₁) (g' := (mkF m 2 #[.val (.ref t), .unset, .unset, .unset] [(.int (Int32.ofNat bs.length))])) (fun _ zk => lenV X0 hx hZ e0 V1 (g := (mkF m 1 #[.val (.ref t), .unset, .unset, .unset] [(.ref t)])) rfl (rest := []) rfl (hb hby d17_1) zk) ?_
  refine Go.st (T' := s₁) (g' := (mkF m 3 #[.val (.ref t), .val (.int (Int32.ofNat bs.length)), .unset, .unset] [])) (fun _ zk => XS.istoreN X0.here hx rfl (hb hby d17_2) rfl (l' := #[.val (.ref t), .val (.int (Int32.ofNat bs.length)), .unset, .unset]) rfl zk) ?_
  refine Go.st (T' := s₁) (g' := (mkF m 4 #[.val (.ref t), .val (.int (Int32.ofNat bs.length)), .unset, .unset] [(.int (0 : Int32))])) (fun _ zk => XS.iconst X0.here hx rfl (hb hby d17_3) zk) ?_
  refine Go.st (T' := s₁) (g' := (mkF m 5 #[.val (.ref t), .val (.int (Int32.ofNat bs.length)), .val (.int (0 : Int32)), .unset] [])) (fun _ zk => XS.istoreN X0.here hx rfl (hb hby d17_4) rfl (l' := #[.val (.ref t), .val (.int (Int32.ofNat bs.length)), .val (.int (0 : Int32)), .unset]) rfl zk) ?_
  have loop : ∀ (q i : Nat), i + q = bs.length → ∀ (T : State) (lc : List Loc) (s3 : Slot), (s3 = .unset ∨ ∃ x, s3 = .val (.int x)) → Stand p l e rr_inw s m #[(.ref t)] below meth c T lc 0 0 → T.heap = h0 → Fr n0 lc → (∀ j, j < i → WS (((bs.getD j 0) &&& (255 : Int32)).toUInt32.toUInt16.toUInt32.toInt32)) → Go p.tables e below (FinP s (fun v h L => ∃ j : Nat, v = some (.int (Int32.ofNat j)) ∧ j ≤ bs.length ∧ (∀ i, i < j → WS (((bs.getD i 0) &&& (255 : Int32)).toUInt32.toUInt16.toUInt32.toInt32)) ∧ (j < bs.length → ¬ WS (((bs.getD j 0) &&& (255 : Int32)).toUInt32.toUInt16.toUInt32.toInt32)) ∧ Fr n0 L ∧ h = h0) rr_inw.cells rr_inw.slots) T (mkF m 5 #[.val (.ref t), .val (.int (Int32.ofNat bs.length)), .val (.int (Int32.ofNat i)), s3] []) := by
    intro q
    induction q with
    | zero =>
      intro i hi T lc s3 hs3 XL eL NL inv
      refine Go.st (T' := T) (g' := (mkF m 6 #[.val (.ref t), .val (.int (Int32.ofNat bs.length)), .val (.int (Int32.ofNat i)), s3] [(.int (Int32.ofNat i))])) (fun _ zk => XS.iloadN XL.here hx rfl (hb hby d17_5) rfl zk) ?_
      refine Go.st (T' := T) (g' := (mkF m 7 #[.val (.ref t), .val (.int (Int32.ofNat bs.length)), .val (.int (Int32.ofNat i)), s3] [(.int (Int32.ofNat bs.length)), (.int (Int32.ofNat i))])) (fun _ zk => XS.iloadN XL.here hx rfl (hb hby d17_6) rfl zk) ?_
      refine Go.st (T' := T) (g' := (mkF m 47 #[.val (.ref t), .val (.int (Int32.ofNat bs.length)), .val (.int (Int32.ofNat i)), s3] [])) (fun _ zk => XS.icmpYes XL.here hx rfl (pc0 := 7) (pc' := 47) rfl (hb hby d17_7) rfl (flt (own_ofnl (by omega) (by omega) lb : ¬ ((Int32.ofNat i) < (Int32.ofNat bs.length)))).2.1 (by decide) (by decide) zk) ?_
      refine Go.st (T' := T) (g' := (mkF m 48 #[.val (.ref t), .val (.int (Int32.ofNat bs.length)), .val (.int (Int32.ofNat i)), s3] [(.int (Int32.ofNat i))])) (fun _ zk => XS.iloadN XL.here hx rfl (hb hby d17_47) rfl zk) ?_
      refine Go.retN XL hx hlk hret rfl (by simp) (hb hby d17_48) (by decide) (by decide) eL ?_
      exact ⟨i, rfl, by omega, inv, fun q => absurd q (by omega), NL, rfl⟩
    | succ q ih =>
      intro i hi T lc s3 hs3 XL eL NL inv
      refine Go.st (T' := T) (g' := (mkF m 6 #[.val (.ref t), .val (.int (Int32.ofNat bs.length)), .val (.int (Int32.ofNat i)), s3] [(.int (Int32.ofNat i))])) (fun _ zk => XS.iloadN XL.here hx rfl (hb hby d17_5) rfl zk) ?_
      refine Go.st (T' := T) (g' := (mkF m 7 #[.val (.ref t), .val (.int (Int32.ofNat bs.length)), .val (.int (Int32.ofNat i)), s3] [(.int (Int32.ofNat bs.length)), (.int (Int32.ofNat i))])) (fun _ zk => XS.iloadN XL.here hx rfl (hb hby d17_6) rfl zk) ?_
      refine Go.st (T' := T) (g' := (mkF m 10 #[.val (.ref t), .val (.int (Int32.ofNat bs.length)), .val (.int (Int32.ofNat i)), s3] [])) (fun _ zk => XS.icmpNo XL.here hx rfl (hb hby d17_7) rfl (tlt (own_oflt (by omega) lb : (Int32.ofNat i) < (Int32.ofNat bs.length))).2.1 zk) ?_
      refine Go.st (T' := T) (g' := (mkF m 11 #[.val (.ref t), .val (.int (Int32.ofNat bs.length)), .val (.int (Int32.ofNat i)), s3] [(.ref t)])) (fun _ zk => XS.aloadN XL.here hx rfl (hb hby d17_10) rfl rfl zk) ?_
      refine Go.st (T' := T) (g' := (mkF m 12 #[.val (.ref t), .val (.int (Int32.ofNat bs.length)), .val (.int (Int32.ofNat i)), s3] [(.int (Int32.ofNat i)), (.ref t)])) (fun _ zk => XS.iloadN XL.here hx rfl (hb hby d17_11) rfl zk) ?_
      refine Go.callSt (y := (⟨"java/lang/StringLatin1", "getChar", "([BI)C"⟩ : MethodName)) XL hx hZ hown eL (w82 hw) (w83 hw) (w40 hw) (w84 hw) (by decide) (argsL := [(.ref t), (.int (Int32.ofNat i))]) (rest := []) (W := 0) (rm_getCharL l Z a0 hw [] t k bs i h0 n0 Z0 V1 lb (by omega)) rfl (lenOf pd10 rfl) rfl (by rw [hml]; rfl) rfl (by show 2 * 0 + _ ≤ _; exact Nat.le_of_eq rfl) (by decide) (by decide) (by decide) (by decide) (hb hby d17_12) ?_
      intro v1 T1 h1 L1 X1 e1 q1
      obtain ⟨hv1, Nf1, hh1⟩ := q1
      subst hv1
      have E1 : T1.heap = h0 := e1.trans hh1
      have N1 := Fr.app NL Nf1
      show Go p.tables e below _ T1 (mkF m 15 #[.val (.ref t), .val (.int (Int32.ofNat bs.length)), .val (.int (Int32.ofNat i)), s3] [(.int (((bs.getD i 0) &&& (255 : Int32)).toUInt32.toUInt16.toUInt32.toInt32))])
      obtain ⟨ch, hch⟩ : ∃ z, z = (((bs.getD i 0) &&& (255 : Int32)).toUInt32.toUInt16.toUInt32.toInt32) := ⟨_, rfl⟩
      rw [← hch]
      have hu := own_u8r (bs.getD i 0)
      rw [← hch] at hu
      refine Go.st (T' := T1) (g' := (mkF m 16 #[.val (.ref t), .val (.int (Int32.ofNat bs.length)), .val (.int (Int32.ofNat i)), .val (.int ch)] [])) (fun _ zk => XS.istoreN X1.here hx rfl (hb hby d17_15) rfl (l' := #[.val (.ref t), .val (.int (Int32.ofNat bs.length)), .val (.int (Int32.ofNat i)), .val (.int ch)]) (by rcases hs3 with rfl | ⟨x6, rfl⟩ <;> rfl) zk) ?_
      refine Go.st (T' := T1) (g' := (mkF m 17 #[.val (.ref t), .val (.int (Int32.ofNat bs.length)), .val (.int (Int32.ofNat i)), .val (.int ch)] [(.int ch)])) (fun _ zk => XS.iloadN X1.here hx rfl (hb hby d17_16) rfl zk) ?_
      refine Go.st (T' := T1) (g' := (mkF m 19 #[.val (.ref t), .val (.int (Int32.ofNat bs.length)), .val (.int (Int32.ofNat i)), .val (.int ch)] [(.int (32 : Int32)), (.int ch)])) (fun _ zk => XS.bipush X1.here hx rfl (hb hby d17_17) zk) ?_
      by_cases hc19 : ch = (32 : Int32)
      · refine Go.st (T' := T1) (g' := (mkF m 41 #[.val (.ref t), .val (.int (Int32.ofNat bs.length)), .val (.int (Int32.ofNat i)), .val (.int ch)] [])) (fun _ zk => XS.icmpYes X1.here hx rfl (pc0 := 19) (pc' := 41) rfl (hb hby d17_19) rfl (teq hc19).1 (by decide) (by decide) zk) ?_
        refine Go.st (T' := T1) (g' := (mkF m 44 #[.val (.ref t), .val (.int (Int32.ofNat bs.length)), .val (.int ((Int32.ofNat i) + (1 : Int32))), .val (.int ch)] [])) (fun _ zk => XS.iinc X1.here hx rfl (hb hby d17_41) rfl (l' := #[.val (.ref t), .val (.int (Int32.ofNat bs.length)), .val (.int ((Int32.ofNat i) + (1 : Int32))), .val (.int ch)]) rfl zk) ?_
        refine Go.st (T' := T1) (g' := (mkF m 5 #[.val (.ref t), .val (.int (Int32.ofNat bs.length)), .val (.int ((Int32.ofNat i) + (1 : Int32))), .val (.int ch)] [])) (fun _ zk => XS.goto X1.here hx rfl (pc0 := 44) (pc' := 5) rfl (hb hby d17_44) (by decide) (by decide) zk) ?_
        have hws : WS ch := Or.inl hc19
        rw [hch] at hws
        rw [own_one]
        exact ih (i + 1) (by omega) _ _ _ (Or.inr ⟨_, rfl⟩) X1 E1 N1 fun j q => (Nat.lt_succ_iff_lt_or_eq.mp q).elim (inv j) fun z => by rw [z]; exact hws
      · refine Go.st (T' := T1) (g' := (mkF m 22 #[.val (.ref t), .val (.int (Int32.ofNat bs.length)), .val (.int (Int32.ofNat i)), .val (.int ch)] [])) (fun _ zk => XS.icmpNo X1.here hx rfl (hb hby d17_19) rfl (feq hc19).1 zk) ?_
        refine Go.st (T' := T1) (g' := (mkF m 23 #[.val (.ref t), .val (.int (Int32.ofNat bs.length)), .val (.int (Int32.ofNat i)), .val (.int ch)] [(.int ch)])) (fun _ zk => XS.iloadN X1.here hx rfl (hb hby d17_22) rfl zk) ?_
        refine Go.st (T' := T1) (g' := (mkF m 25 #[.val (.ref t), .val (.int (Int32.ofNat bs.length)), .val (.int (Int32.ofNat i)), .val (.int ch)] [(.int (9 : Int32)), (.int ch)])) (fun _ zk => XS.bipush X1.here hx rfl (hb hby d17_23) zk) ?_
        by_cases hc25 : ch = (9 : Int32)
        · refine Go.st (T' := T1) (g' := (mkF m 41 #[.val (.ref t), .val (.int (Int32.ofNat bs.length)), .val (.int (Int32.ofNat i)), .val (.int ch)] [])) (fun _ zk => XS.icmpYes X1.here hx rfl (pc0 := 25) (pc' := 41) rfl (hb hby d17_25) rfl (teq hc25).1 (by decide) (by decide) zk) ?_
          refine Go.st (T' := T1) (g' := (mkF m 44 #[.val (.ref t), .val (.int (Int32.ofNat bs.length)), .val (.int ((Int32.ofNat i) + (1 : Int32))), .val (.int ch)] [])) (fun _ zk => XS.iinc X1.here hx rfl (hb hby d17_41) rfl (l' := #[.val (.ref t), .val (.int (Int32.ofNat bs.length)), .val (.int ((Int32.ofNat i) + (1 : Int32))), .val (.int ch)]) rfl zk) ?_
          refine Go.st (T' := T1) (g' := (mkF m 5 #[.val (.ref t), .val (.int (Int32.ofNat bs.length)), .val (.int ((Int32.ofNat i) + (1 : Int32))), .val (.int ch)] [])) (fun _ zk => XS.goto X1.here hx rfl (pc0 := 44) (pc' := 5) rfl (hb hby d17_44) (by decide) (by decide) zk) ?_
          have hws : WS ch := Or.inr (Or.inl hc25)
          rw [hch] at hws
          rw [own_one]
          exact ih (i + 1) (by omega) _ _ _ (Or.inr ⟨_, rfl⟩) X1 E1 N1 fun j q => (Nat.lt_succ_iff_lt_or_eq.mp q).elim (inv j) fun z => by rw [z]; exact hws
        · refine Go.st (T' := T1) (g' := (mkF m 28 #[.val (.ref t), .val (.int (Int32.ofNat bs.length)), .val (.int (Int32.ofNat i)), .val (.int ch)] [])) (fun _ zk => XS.icmpNo X1.here hx rfl (hb hby d17_25) rfl (feq hc25).1 zk) ?_
          obtain ⟨T2, X2, e2, st2⟩ := getS2 X1 hx hZ hown (host := "") (Or.inl (w85 hw)) Via.refl E1 (SI.ext O0.2) (g := (mkF m 28 #[.val (.ref t), .val (.int (Int32.ofNat bs.length)), .val (.int (Int32.ofNat i)), .val (.int ch)] [])) rfl (hb hby d17_28)
          refine Go.st (T' := T2) (g' := (mkF m 31 #[.val (.ref t), .val (.int (Int32.ofNat bs.length)), .val (.int (Int32.ofNat i)), .val (.int ch)] [(.ref ci)])) (fun _ zk => st2 _ zk) ?_
          refine Go.st (T' := T2) (g' := (mkF m 32 #[.val (.ref t), .val (.int (Int32.ofNat bs.length)), .val (.int (Int32.ofNat i)), .val (.int ch)] [(.int ch), (.ref ci)])) (fun _ zk => XS.iloadN X2.here hx rfl (hb hby d17_31) rfl zk) ?_
          refine Go.callV (y := (⟨"java/lang/CharacterDataLatin1", "isWhitespace", "(I)Z"⟩ : MethodName)) (z := (⟨"java/lang/CharacterDataLatin1", "isWhitespace", "(I)Z"⟩ : MethodName)) (C := "java/lang/CharacterDataLatin1") (a := ci) X2 hx hZ hown e2 (w87 hw) (w88 hw) (w90 hw) (w89 hw) (w86 hw) (w91 hw) (notFace_of_selects (args := #[]) (mvT hZ (w90 hw))) (by decide) (EI.ext O0.2) (argsL := [(.int ch)]) (rest := []) (W := 0) (rm_isWs l Z a0 hw [] ch ci dA kA h0 n0 Z0 O0 hu SI EI SA FA) rfl (lenOf pd11 rfl) rfl (by rw [hml]; rfl) rfl (by show 2 * 0 + _ ≤ _; exact Nat.le_of_eq rfl) (by decide) (by decide) (by decide) (by decide) (hb hby d17_32) ?_
          intro v3 T3 h3 L3 X3 e3 q3
          obtain ⟨r3, hv3, hr3, Nf3, hh3⟩ := q3
          subst hv3
          have E3 : T3.heap = h0 := e3.trans hh3
          have N3 := Fr.app N1 Nf3
          show Go p.tables e below _ T3 (mkF m 35 #[.val (.ref t), .val (.int (Int32.ofNat bs.length)), .val (.int (Int32.ofNat i)), .val (.int ch)] [(.int r3)])
          by_cases hc35 : r3 = (0 : Int32)
          · refine Go.st (T' := T3) (g' := (mkF m 38 #[.val (.ref t), .val (.int (Int32.ofNat bs.length)), .val (.int (Int32.ofNat i)), .val (.int ch)] [])) (fun _ zk => XS.ifNo X3.here hx rfl (hb hby d17_35) rfl ((if0 _ _).trans (teq hc35).2) zk) ?_
            refine Go.st (T' := T3) (g' := (mkF m 47 #[.val (.ref t), .val (.int (Int32.ofNat bs.length)), .val (.int (Int32.ofNat i)), .val (.int ch)] [])) (fun _ zk => XS.goto X3.here hx rfl (pc0 := 38) (pc' := 47) rfl (hb hby d17_38) (by decide) (by decide) zk) ?_
            refine Go.st (T' := T3) (g' := (mkF m 48 #[.val (.ref t), .val (.int (Int32.ofNat bs.length)), .val (.int (Int32.ofNat i)), .val (.int ch)] [(.int (Int32.ofNat i))])) (fun _ zk => XS.iloadN X3.here hx rfl (hb hby d17_47) rfl zk) ?_
            refine Go.retN X3 hx hlk hret rfl (by simp) (hb hby d17_48) (by decide) (by decide) E3 ?_
            have hnw : ¬ WS ch := fun z => z.elim hc19 fun z => z.elim hc25 (own_rr0 hr3 hc35)
            rw [hch] at hnw
            exact ⟨i, rfl, by omega, inv, fun _ => hnw, N3, rfl⟩
          · refine Go.st (T' := T3) (g' := (mkF m 41 #[.val (.ref t), .val (.int (Int32.ofNat bs.length)), .val (.int (Int32.ofNat i)), .val (.int ch)] [])) (fun _ zk => XS.ifYes X3.here hx rfl (pc0 := 35) (pc' := 41) rfl (hb hby d17_35) rfl ((if0 _ _).trans (feq hc35).2) (by decide) (by decide) zk) ?_
            refine Go.st (T' := T3) (g' := (mkF m 44 #[.val (.ref t), .val (.int (Int32.ofNat bs.length)), .val (.int ((Int32.ofNat i) + (1 : Int32))), .val (.int ch)] [])) (fun _ zk => XS.iinc X3.here hx rfl (hb hby d17_41) rfl (l' := #[.val (.ref t), .val (.int (Int32.ofNat bs.length)), .val (.int ((Int32.ofNat i) + (1 : Int32))), .val (.int ch)]) rfl zk) ?_
            refine Go.st (T' := T3) (g' := (mkF m 5 #[.val (.ref t), .val (.int (Int32.ofNat bs.length)), .val (.int ((Int32.ofNat i) + (1 : Int32))), .val (.int ch)] [])) (fun _ zk => XS.goto X3.here hx rfl (pc0 := 44) (pc' := 5) rfl (hb hby d17_44) (by decide) (by decide) zk) ?_
            have hws : WS ch := Or.inr (Or.inr (own_rr hr3 hc35))
            rw [hch] at hws
            rw [own_one]
            exact ih (i + 1) (by omega) _ _ _ (Or.inr ⟨_, rfl⟩) X3 E3 N3 fun j q => (Nat.lt_succ_iff_lt_or_eq.mp q).elim (inv j) fun z => by rw [z]; exact hws
  exact loop bs.length 0 (by omega) _ _ _ (Or.inl rfl) X0 e0 N0 (fun j q => absurd q (Nat.not_lt_zero _))
theorem d21_0 : decode jdk_43_method_38_code 0 = .ok (.aload_n 0, 1) := by decide +kernel
theorem d21_1 : decode jdk_43_method_38_code 1 = .ok (.arraylength, 1) := by decide +kernel
theorem d21_2 : decode jdk_43_method_38_code 2 = .ok (.istore_n 1, 1) := by decide +kernel
theorem d21_3 : decode jdk_43_method_38_code 3 = .ok (.iload_n 1, 1) := by decide +kernel
theorem d21_4 : decode jdk_43_method_38_code 4 = .ok (.istore_n 2, 1) := by decide +kernel
theorem d21_5 : decode jdk_43_method_38_code 5 = .ok (.iconst 0, 1) := by decide +kernel
theorem d21_6 : decode jdk_43_method_38_code 6 = .ok (.iload_n 2, 1) := by decide +kernel
theorem d21_7 : decode jdk_43_method_38_code 7 = .ok (.if_icmp .ge 42, 3) := by decide +kernel
theorem d21_49 : decode jdk_43_method_38_code 49 = .ok (.iload_n 2, 1) := by decide +kernel
theorem d21_50 : decode jdk_43_method_38_code 50 = .ok (.ireturn, 1) := by decide +kernel
theorem d21_10 : decode jdk_43_method_38_code 10 = .ok (.aload_n 0, 1) := by decide +kernel
theorem d21_11 : decode jdk_43_method_38_code 11 = .ok (.iload_n 2, 1) := by decide +kernel
theorem d21_12 : decode jdk_43_method_38_code 12 = .ok (.iconst 1, 1) := by decide +kernel
theorem d21_13 : decode jdk_43_method_38_code 13 = .ok (.isub, 1) := by decide +kernel
theorem d21_14 : decode jdk_43_method_38_code 14 = .ok (.invokestatic 50, 3) := by decide +kernel
theorem d21_17 : decode jdk_43_method_38_code 17 = .ok (.istore_n 3, 1) := by decide +kernel
theorem d21_18 : decode jdk_43_method_38_code 18 = .ok (.iload_n 3, 1) := by decide +kernel
theorem d21_19 : decode jdk_43_method_38_code 19 = .ok (.bipush 32, 2) := by decide +kernel
theorem d21_21 : decode jdk_43_method_38_code 21 = .ok (.if_icmp .eq 22, 3) := by decide +kernel
theorem d21_43 : decode jdk_43_method_38_code 43 = .ok (.iinc 2 (-1), 3) := by decide +kernel
theorem d21_46 : decode jdk_43_method_38_code 46 = .ok (.goto (-41), 3) := by decide +kernel
theorem d21_24 : decode jdk_43_method_38_code 24 = .ok (.iload_n 3, 1) := by decide +kernel
theorem d21_25 : decode jdk_43_method_38_code 25 = .ok (.bipush 9, 2) := by decide +kernel
theorem d21_27 : decode jdk_43_method_38_code 27 = .ok (.if_icmp .eq 16, 3) := by decide +kernel
theorem d21_30 : decode jdk_43_method_38_code 30 = .ok (.getstatic 66, 3) := by decide +kernel
theorem d21_33 : decode jdk_43_method_38_code 33 = .ok (.iload_n 3, 1) := by decide +kernel
theorem d21_34 : decode jdk_43_method_38_code 34 = .ok (.invokevirtual 211, 3) := by decide +kernel
theorem d21_37 : decode jdk_43_method_38_code 37 = .ok (.ifCond .ne 6, 3) := by decide +kernel
theorem d21_40 : decode jdk_43_method_38_code 40 = .ok (.goto 9, 3) := by decide +kernel
def rr_lnw : Room := { frames := 2, cells := 0, slots := 0, locals := 29 }
set_option maxRecDepth 65536 in
set_option maxHeartbeats 40000000 in
theorem rm_lnw (l : Launch) (Z : State) (a0 : Array Value) (hw : ∀ d ∈ tables_1, d.before a0 Z = true) (ws : List Jvm.Cond) (t : Addr) (k : ClassId) (bs : List Int32) (ci dA : Addr) (kA : ClassId) (h0 : Heap) (n0 : Nat) (Z0 : n0 ≤ h0.size) (O0 : Old Z n0 h0) (V1 : Arv Z h0 t k .byte (Int32.ofNat bs.length) (bs.map Value.int) (.int (0 : Int32))) (lb : bs.length < 2 ^ 31) (SI : Sta Z Z.heap "java/lang/CharacterDataLatin1" "instance" "Ljava/lang/CharacterDataLatin1;" (.ref ci)) (EI : Exa Z Z.heap ci "java/lang/CharacterDataLatin1") (SA : Sta Z Z.heap "java/lang/CharacterDataLatin1" "A" "[I" (.ref dA)) (FA : Arv Z Z.heap dA kA .int (256 : Int32) (tabA.map Value.int) (.int (0 : Int32))) :
    Con l Z (⟨"java/lang/StringLatin1", "lastIndexOfNonWhitespace", "([B)I"⟩ : MethodName) jdk_43_method_38_code 4 (some .int) ws rr_lnw #[(.ref t)] h0 (fun v h L => ∃ j : Nat, v = some (.int (Int32.ofNat j)) ∧ j ≤ bs.length ∧ (∀ i, j ≤ i → i < bs.length → WS (((bs.getD i 0) &&& (255 : Int32)).toUInt32.toUInt16.toUInt32.toInt32)) ∧ (0 < j → ¬ WS (((bs.getD (j - 1) 0) &&& (255 : Int32)).toUInt32.toUInt16.toUInt32.toInt32)) ∧ Fr n0 L ∧ h = h0) := by
  refine Con.enter (plainFor_of_name pn0) ?_
  intro p e s m below meth c s₁ X0 hx hZ hby hml hret hlk hown hnm e0
  have N0 := Fr.nil n0
  refine Go.cast (g' := (mkF m 0 #[.val (.ref t), .unset, .unset, .unset] [])) (by first | rfl | (simp [entryFrame, mkF, argsToLocals, Value.category]; done)) ?_
  refine Go.st (T' := s₁) (g' := (mkF m 1 #[.val (.ref t), .unset, .unset, .unset] [(.ref t)])) (fun _ zk => XS.aloadN X0.here hx rfl (hb hby d21_0) rfl rfl zk) ?_
  refine Go.st (T' := s₁) (g' := (mkF m 2 #[.val (.ref t), .unset, .unset, .unset] [(.int (Int32.ofNat bs.length))])) (fun _ zk => lenV X0 hx hZ e0 V1 (g := (mkF m 1 #[.val (.ref t), .unset, .unset, .unset] [(.ref t)])) rfl (rest := []) rfl (hb hby d21_1) zk) ?_
  refine Go.st (T' := s₁) (g' := (mkF m 3 #[.val (.ref t), .val (.int (Int32.ofNat bs.length)), .unset, .unset] [])) (fun _ zk => XS.istoreN X0.here hx rfl (hb hby d21_2) rfl (l' := #[.val (.ref t), .val (.int (Int32.ofNat bs.length)), .unset, .unset]) rfl zk) ?_
  refine Go.st (T' := s₁) (g' := (mkF m 4 #[.val (.ref t), .val (.int (Int32.ofNat bs.length)), .unset, .unset] [(.int (Int32.ofNat bs.length))])) (fun _ zk => XS.iloadN X0.here hx rfl (hb hby d21_3) rfl zk) ?_
  refine Go.st (T' := s₁) (g' := (mkF m 5 #[.val (.ref t), .val (.int (Int32.ofNat bs.length)), .val (.int (Int32.ofNat bs.length)), .unset] [])) (fun _ zk => XS.istoreN X0.here hx rfl (hb hby d21_4) rfl (l' := #[.val (.ref t), .val (.int (Int32.ofNat bs.length)), .val (.int (Int32.ofNat bs.length)), .unset]) rfl zk) ?_
  have loop : ∀ (i : Nat), i ≤ bs.length → ∀ (T : State) (lc : List Loc) (s3 : Slot), (s3 = .unset ∨ ∃ x, s3 = .val (.int x)) → Stand p l e rr_lnw s m #[(.ref t)] below meth c T lc 0 0 → T.heap = h0 → Fr n0 lc → (∀ j, i ≤ j → j < bs.length → WS (((bs.getD j 0) &&& (255 : Int32)).toUInt32.toUInt16.toUInt32.toInt32)) → Go p.tables e below (FinP s (fun v h L => ∃ j : Nat, v = some (.int (Int32.ofNat j)) ∧ j ≤ bs.length ∧ (∀ i, j ≤ i → i < bs.length → WS (((bs.getD i 0) &&& (255 : Int32)).toUInt32.toUInt16.toUInt32.toInt32)) ∧ (0 < j → ¬ WS (((bs.getD (j - 1) 0) &&& (255 : Int32)).toUInt32.toUInt16.toUInt32.toInt32)) ∧ Fr n0 L ∧ h = h0) rr_lnw.cells rr_lnw.slots) T (mkF m 5 #[.val (.ref t), .val (.int (Int32.ofNat bs.length)), .val (.int (Int32.ofNat i)), s3] []) := by
    intro i
    induction i with
    | zero =>
      intro hi T lc s3 hs3 XL eL NL inv
      refine Go.st (T' := T) (g' := (mkF m 6 #[.val (.ref t), .val (.int (Int32.ofNat bs.length)), .val (.int (Int32.ofNat 0)), s3] [(.int (0 : Int32))])) (fun _ zk => XS.iconst XL.here hx rfl (hb hby d21_5) zk) ?_
      refine Go.st (T' := T) (g' := (mkF m 7 #[.val (.ref t), .val (.int (Int32.ofNat bs.length)), .val (.int (Int32.ofNat 0)), s3] [(.int (Int32.ofNat 0)), (.int (0 : Int32))])) (fun _ zk => XS.iloadN XL.here hx rfl (hb hby d21_6) rfl zk) ?_
      refine Go.st (T' := T) (g' := (mkF m 49 #[.val (.ref t), .val (.int (Int32.ofNat bs.length)), .val (.int (Int32.ofNat 0)), s3] [])) (fun _ zk => XS.icmpYes XL.here hx rfl (pc0 := 7) (pc' := 49) rfl (hb hby d21_7) rfl (flt ((by decide) : ¬ ((0 : Int32) < (Int32.ofNat 0)))).2.1 (by decide) (by decide) zk) ?_
      refine Go.st (T' := T) (g' := (mkF m 50 #[.val (.ref t), .val (.int (Int32.ofNat bs.length)), .val (.int (Int32.ofNat 0)), s3] [(.int (Int32.ofNat 0))])) (fun _ zk => XS.iloadN XL.here hx rfl (hb hby d21_49) rfl zk) ?_
      refine Go.retN XL hx hlk hret rfl (by simp) (hb hby d21_50) (by decide) (by decide) eL ?_
      exact ⟨0, rfl, Nat.zero_le _, inv, fun q => absurd q (Nat.lt_irrefl _), NL, rfl⟩
    | succ i ih =>
      intro hi T lc s3 hs3 XL eL NL inv
      refine Go.st (T' := T) (g' := (mkF m 6 #[.val (.ref t), .val (.int (Int32.ofNat bs.length)), .val (.int (Int32.ofNat (i + 1))), s3] [(.int (0 : Int32))])) (fun _ zk => XS.iconst XL.here hx rfl (hb hby d21_5) zk) ?_
      refine Go.st (T' := T) (g' := (mkF m 7 #[.val (.ref t), .val (.int (Int32.ofNat bs.length)), .val (.int (Int32.ofNat (i + 1))), s3] [(.int (Int32.ofNat (i + 1))), (.int (0 : Int32))])) (fun _ zk => XS.iloadN XL.here hx rfl (hb hby d21_6) rfl zk) ?_
      refine Go.st (T' := T) (g' := (mkF m 10 #[.val (.ref t), .val (.int (Int32.ofNat bs.length)), .val (.int (Int32.ofNat (i + 1))), s3] [])) (fun _ zk => XS.icmpNo XL.here hx rfl (hb hby d21_7) rfl (tlt (own_oflt (i := 0) (n := i + 1) (by omega) (by omega) : (0 : Int32) < (Int32.ofNat (i + 1)))).2.1 zk) ?_
      refine Go.st (T' := T) (g' := (mkF m 11 #[.val (.ref t), .val (.int (Int32.ofNat bs.length)), .val (.int (Int32.ofNat (i + 1))), s3] [(.ref t)])) (fun _ zk => XS.aloadN XL.here hx rfl (hb hby d21_10) rfl rfl zk) ?_
      refine Go.st (T' := T) (g' := (mkF m 12 #[.val (.ref t), .val (.int (Int32.ofNat bs.length)), .val (.int (Int32.ofNat (i + 1))), s3] [(.int (Int32.ofNat (i + 1))), (.ref t)])) (fun _ zk => XS.iloadN XL.here hx rfl (hb hby d21_11) rfl zk) ?_
      refine Go.st (T' := T) (g' := (mkF m 13 #[.val (.ref t), .val (.int (Int32.ofNat bs.length)), .val (.int (Int32.ofNat (i + 1))), s3] [(.int (1 : Int32)), (.int (Int32.ofNat (i + 1))), (.ref t)])) (fun _ zk => XS.iconst XL.here hx rfl (hb hby d21_12) zk) ?_
      refine Go.st (T' := T) (g' := (mkF m 14 #[.val (.ref t), .val (.int (Int32.ofNat bs.length)), .val (.int (Int32.ofNat (i + 1))), s3] [(.int ((Int32.ofNat (i + 1)) - (1 : Int32))), (.ref t)])) (fun _ zk => XS.isub XL.here hx rfl (hb hby d21_13) rfl zk) ?_
      rw [own_pred i (by omega)]
      refine Go.callSt (y := (⟨"java/lang/StringLatin1", "getChar", "([BI)C"⟩ : MethodName)) XL hx hZ hown eL (w82 hw) (w83 hw) (w40 hw) (w84 hw) (by decide) (argsL := [(.ref t), (.int (Int32.ofNat i))]) (rest := []) (W := 0) (rm_getCharL l Z a0 hw [] t k bs i h0 n0 Z0 V1 lb (by omega)) rfl (lenOf pd10 rfl) rfl (by rw [hml]; rfl) rfl (by show 2 * 0 + _ ≤ _; exact Nat.le_of_eq rfl) (by decide) (by decide) (by decide) (by decide) (hb hby d21_14) ?_
      intro v1 T1 h1 L1 X1 e1 q1
      obtain ⟨hv1, Nf1, hh1⟩ := q1
      subst hv1
      have E1 : T1.heap = h0 := e1.trans hh1
      have N1 := Fr.app NL Nf1
      show Go p.tables e below _ T1 (mkF m 17 #[.val (.ref t), .val (.int (Int32.ofNat bs.length)), .val (.int (Int32.ofNat (i + 1))), s3] [(.int (((bs.getD i 0) &&& (255 : Int32)).toUInt32.toUInt16.toUInt32.toInt32))])
      obtain ⟨ch, hch⟩ : ∃ z, z = (((bs.getD i 0) &&& (255 : Int32)).toUInt32.toUInt16.toUInt32.toInt32) := ⟨_, rfl⟩
      rw [← hch]
      have hu := own_u8r (bs.getD i 0)
      rw [← hch] at hu
      refine Go.st (T' := T1) (g' := (mkF m 18 #[.val (.ref t), .val (.int (Int32.ofNat bs.length)), .val (.int (Int32.ofNat (i + 1))), .val (.int ch)] [])) (fun _ zk => XS.istoreN X1.here hx rfl (hb hby d21_17) rfl (l' := #[.val (.ref t), .val (.int (Int32.ofNat bs.length)), .val (.int (Int32.ofNat (i + 1))), .val (.int ch)]) (by rcases hs3 with rfl | ⟨x6, rfl⟩ <;> rfl) zk) ?_
      refine Go.st (T' := T1) (g' := (mkF m 19 #[.val (.ref t), .val (.int (Int32.ofNat bs.length)), .val (.int (Int32.ofNat (i + 1))), .val (.int ch)] [(.int ch)])) (fun _ zk => XS.iloadN X1.here hx rfl (hb hby d21_18) rfl zk) ?_
      refine Go.st (T' := T1) (g' := (mkF m 21 #[.val (.ref t), .val (.int (Int32.ofNat bs.length)), .val (.int (Int32.ofNat (i + 1))), .val (.int ch)] [(.int (32 : Int32)), (.int ch)])) (fun _ zk => XS.bipush X1.here hx rfl (hb hby d21_19) zk) ?_
      by_cases hc21 : ch = (32 : Int32)
      · refine Go.st (T' := T1) (g' := (mkF m 43 #[.val (.ref t), .val (.int (Int32.ofNat bs.length)), .val (.int (Int32.ofNat (i + 1))), .val (.int ch)] [])) (fun _ zk => XS.icmpYes X1.here hx rfl (pc0 := 21) (pc' := 43) rfl (hb hby d21_21) rfl (teq hc21).1 (by decide) (by decide) zk) ?_
        refine Go.st (T' := T1) (g' := (mkF m 46 #[.val (.ref t), .val (.int (Int32.ofNat bs.length)), .val (.int ((Int32.ofNat (i + 1)) + (-1 : Int32))), .val (.int ch)] [])) (fun _ zk => XS.iinc X1.here hx rfl (hb hby d21_43) rfl (l' := #[.val (.ref t), .val (.int (Int32.ofNat bs.length)), .val (.int ((Int32.ofNat (i + 1)) + (-1 : Int32))), .val (.int ch)]) rfl zk) ?_
        refine Go.st (T' := T1) (g' := (mkF m 5 #[.val (.ref t), .val (.int (Int32.ofNat bs.length)), .val (.int ((Int32.ofNat (i + 1)) + (-1 : Int32))), .val (.int ch)] [])) (fun _ zk => XS.goto X1.here hx rfl (pc0 := 46) (pc' := 5) rfl (hb hby d21_46) (by decide) (by decide) zk) ?_
        have hws : WS ch := Or.inl hc21
        rw [hch] at hws
        rw [own_predm i (by omega)]
        exact ih (by omega) _ _ _ (Or.inr ⟨_, rfl⟩) X1 E1 N1 fun j q1 q2 => (Nat.lt_or_eq_of_le q1).elim (fun z => inv j z q2) fun z => by rw [← z]; exact hws
      · refine Go.st (T' := T1) (g' := (mkF m 24 #[.val (.ref t), .val (.int (Int32.ofNat bs.length)), .val (.int (Int32.ofNat (i + 1))), .val (.int ch)] [])) (fun _ zk => XS.icmpNo X1.here hx rfl (hb hby d21_21) rfl (feq hc21).1 zk) ?_
        refine Go.st (T' := T1) (g' := (mkF m 25 #[.val (.ref t), .val (.int (Int32.ofNat bs.length)), .val (.int (Int32.ofNat (i + 1))), .val (.int ch)] [(.int ch)])) (fun _ zk => XS.iloadN X1.here hx rfl (hb hby d21_24) rfl zk) ?_
        refine Go.st (T' := T1) (g' := (mkF m 27 #[.val (.ref t), .val (.int (Int32.ofNat bs.length)), .val (.int (Int32.ofNat (i + 1))), .val (.int ch)] [(.int (9 : Int32)), (.int ch)])) (fun _ zk => XS.bipush X1.here hx rfl (hb hby d21_25) zk) ?_
        by_cases hc27 : ch = (9 : Int32)
        · refine Go.st (T' := T1) (g' := (mkF m 43 #[.val (.ref t), .val (.int (Int32.ofNat bs.length)), .val (.int (Int32.ofNat (i + 1))), .val (.int ch)] [])) (fun _ zk => XS.icmpYes X1.here hx rfl (pc0 := 27) (pc' := 43) rfl (hb hby d21_27) rfl (teq hc27).1 (by decide) (by decide) zk) ?_
          refine Go.st (T' := T1) (g' := (mkF m 46 #[.val (.ref t), .val (.int (Int32.ofNat bs.length)), .val (.int ((Int32.ofNat (i + 1)) + (-1 : Int32))), .val (.int ch)] [])) (fun _ zk => XS.iinc X1.here hx rfl (hb hby d21_43) rfl (l' := #[.val (.ref t), .val (.int (Int32.ofNat bs.length)), .val (.int ((Int32.ofNat (i + 1)) + (-1 : Int32))), .val (.int ch)]) rfl zk) ?_
          refine Go.st (T' := T1) (g' := (mkF m 5 #[.val (.ref t), .val (.int (Int32.ofNat bs.length)), .val (.int ((Int32.ofNat (i + 1)) + (-1 : Int32))), .val (.int ch)] [])) (fun _ zk => XS.goto X1.here hx rfl (pc0 := 46) (pc' := 5) rfl (hb hby d21_46) (by decide) (by decide) zk) ?_
          have hws : WS ch := Or.inr (Or.inl hc27)
          rw [hch] at hws
          rw [own_predm i (by omega)]
          exact ih (by omega) _ _ _ (Or.inr ⟨_, rfl⟩) X1 E1 N1 fun j q1 q2 => (Nat.lt_or_eq_of_le q1).elim (fun z => inv j z q2) fun z => by rw [← z]; exact hws
        · refine Go.st (T' := T1) (g' := (mkF m 30 #[.val (.ref t), .val (.int (Int32.ofNat bs.length)), .val (.int (Int32.ofNat (i + 1))), .val (.int ch)] [])) (fun _ zk => XS.icmpNo X1.here hx rfl (hb hby d21_27) rfl (feq hc27).1 zk) ?_
          obtain ⟨T2, X2, e2, st2⟩ := getS2 X1 hx hZ hown (host := "") (Or.inl (w85 hw)) Via.refl E1 (SI.ext O0.2) (g := (mkF m 30 #[.val (.ref t), .val (.int (Int32.ofNat bs.length)), .val (.int (Int32.ofNat (i + 1))), .val (.int ch)] [])) rfl (hb hby d21_30)
          refine Go.st (T' := T2) (g' := (mkF m 33 #[.val (.ref t), .val (.int (Int32.ofNat bs.length)), .val (.int (Int32.ofNat (i + 1))), .val (.int ch)] [(.ref ci)])) (fun _ zk => st2 _ zk) ?_
          refine Go.st (T' := T2) (g' := (mkF m 34 #[.val (.ref t), .val (.int (Int32.ofNat bs.length)), .val (.int (Int32.ofNat (i + 1))), .val (.int ch)] [(.int ch), (.ref ci)])) (fun _ zk => XS.iloadN X2.here hx rfl (hb hby d21_33) rfl zk) ?_
          refine Go.callV (y := (⟨"java/lang/CharacterDataLatin1", "isWhitespace", "(I)Z"⟩ : MethodName)) (z := (⟨"java/lang/CharacterDataLatin1", "isWhitespace", "(I)Z"⟩ : MethodName)) (C := "java/lang/CharacterDataLatin1") (a := ci) X2 hx hZ hown e2 (w87 hw) (w88 hw) (w90 hw) (w89 hw) (w86 hw) (w91 hw) (notFace_of_selects (args := #[]) (mvT hZ (w90 hw))) (by decide) (EI.ext O0.2) (argsL := [(.int ch)]) (rest := []) (W := 0) (rm_isWs l Z a0 hw [] ch ci dA kA h0 n0 Z0 O0 hu SI EI SA FA) rfl (lenOf pd11 rfl) rfl (by rw [hml]; rfl) rfl (by show 2 * 0 + _ ≤ _; exact Nat.le_of_eq rfl) (by decide) (by decide) (by decide) (by decide) (hb hby d21_34) ?_
          intro v3 T3 h3 L3 X3 e3 q3
          obtain ⟨r3, hv3, hr3, Nf3, hh3⟩ := q3
          subst hv3
          have E3 : T3.heap = h0 := e3.trans hh3
          have N3 := Fr.app N1 Nf3
          show Go p.tables e below _ T3 (mkF m 37 #[.val (.ref t), .val (.int (Int32.ofNat bs.length)), .val (.int (Int32.ofNat (i + 1))), .val (.int ch)] [(.int r3)])
          by_cases hc37 : r3 = (0 : Int32)
          · refine Go.st (T' := T3) (g' := (mkF m 40 #[.val (.ref t), .val (.int (Int32.ofNat bs.length)), .val (.int (Int32.ofNat (i + 1))), .val (.int ch)] [])) (fun _ zk => XS.ifNo X3.here hx rfl (hb hby d21_37) rfl ((if0 _ _).trans (teq hc37).2) zk) ?_
            refine Go.st (T' := T3) (g' := (mkF m 49 #[.val (.ref t), .val (.int (Int32.ofNat bs.length)), .val (.int (Int32.ofNat (i + 1))), .val (.int ch)] [])) (fun _ zk => XS.goto X3.here hx rfl (pc0 := 40) (pc' := 49) rfl (hb hby d21_40) (by decide) (by decide) zk) ?_
            refine Go.st (T' := T3) (g' := (mkF m 50 #[.val (.ref t), .val (.int (Int32.ofNat bs.length)), .val (.int (Int32.ofNat (i + 1))), .val (.int ch)] [(.int (Int32.ofNat (i + 1)))])) (fun _ zk => XS.iloadN X3.here hx rfl (hb hby d21_49) rfl zk) ?_
            refine Go.retN X3 hx hlk hret rfl (by simp) (hb hby d21_50) (by decide) (by decide) E3 ?_
            have hnw : ¬ WS ch := fun z => z.elim hc21 fun z => z.elim hc27 (own_rr0 hr3 hc37)
            rw [hch] at hnw
            exact ⟨i + 1, rfl, by omega, inv, fun _ => hnw, N3, rfl⟩
          · refine Go.st (T' := T3) (g' := (mkF m 43 #[.val (.ref t), .val (.int (Int32.ofNat bs.length)), .val (.int (Int32.ofNat (i + 1))), .val (.int ch)] [])) (fun _ zk => XS.ifYes X3.here hx rfl (pc0 := 37) (pc' := 43) rfl (hb hby d21_37) rfl ((if0 _ _).trans (feq hc37).2) (by decide) (by decide) zk) ?_
            refine Go.st (T' := T3) (g' := (mkF m 46 #[.val (.ref t), .val (.int (Int32.ofNat bs.length)), .val (.int ((Int32.ofNat (i + 1)) + (-1 : Int32))), .val (.int ch)] [])) (fun _ zk => XS.iinc X3.here hx rfl (hb hby d21_43) rfl (l' := #[.val (.ref t), .val (.int (Int32.ofNat bs.length)), .val (.int ((Int32.ofNat (i + 1)) + (-1 : Int32))), .val (.int ch)]) rfl zk) ?_
            refine Go.st (T' := T3) (g' := (mkF m 5 #[.val (.ref t), .val (.int (Int32.ofNat bs.length)), .val (.int ((Int32.ofNat (i + 1)) + (-1 : Int32))), .val (.int ch)] [])) (fun _ zk => XS.goto X3.here hx rfl (pc0 := 46) (pc' := 5) rfl (hb hby d21_46) (by decide) (by decide) zk) ?_
            have hws : WS ch := Or.inr (Or.inr (own_rr hr3 hc37))
            rw [hch] at hws
            rw [own_predm i (by omega)]
            exact ih (by omega) _ _ _ (Or.inr ⟨_, rfl⟩) X3 E3 N3 fun j q1 q2 => (Nat.lt_or_eq_of_le q1).elim (fun z => inv j z q2) fun z => by rw [← z]; exact hws
  exact loop bs.length (Nat.le_refl _) _ _ _ (Or.inl rfl) X0 e0 N0 (fun j q1 q2 => absurd q2 (Nat.not_lt_of_le q1))
theorem d31_0 : decode jdk_65_method_131_code 0 = .ok (.iload_n 1, 1) := by decide +kernel
theorem d31_1 : decode jdk_65_method_131_code 1 = .ok (.iload_n 0, 1) := by decide +kernel
theorem d31_2 : decode jdk_65_method_131_code 2 = .ok (.if_icmp .ge 35, 3) := by decide +kernel
theorem d31_37 : decode jdk_65_method_131_code 37 = .ok (.return_, 1) := by decide +kernel
def rr_chkLen : Room := { frames := 0, cells := 0, slots := 0, locals := 0 }
theorem pn12 : plainName "java/util/Arrays" = true := by first | (simp [plainName, overriddenIn]; done) | decide +kernel
set_option maxRecDepth 65536 in
set_option maxHeartbeats 40000000 in
theorem rm_chkLen (l : Launch) (Z : State) (a0 : Array Value) (hw : ∀ d ∈ tables_1, d.before a0 Z = true) (ws : List Jvm.Cond) (fr to : Nat) (h0 : Heap) (n0 : Nat) (Z0 : n0 ≤ h0.size) (hft : fr ≤ to) (htl : to < 2 ^ 31) :
    Con l Z (⟨"java/util/Arrays", "checkLength", "(II)V"⟩ : MethodName) jdk_65_method_131_code 2 none ws rr_chkLen #[(.int (Int32.ofNat fr)), (.int (Int32.ofNat to))] h0 (fun v h L => v = none ∧ Fr n0 L ∧ h = h0) := by
  refine Con.enter (plainFor_of_name pn12) ?_
  intro p e s m below meth c s₁ X0 hx hZ hby hml hret hlk hown hnm e0
  have N0 := Fr.nil n0
  refine Go.cast (g' := (mkF m 0 #[.val (.int (Int32.ofNat fr)), .val (.int (Int32.ofNat to))] [])) (by first | rfl | (simp [entryFrame, mkF, argsToLocals, Value.category]; done)) ?_
  refine Go.st (T' := s₁) (g' := (mkF m 1 #[.val (.int (Int32.ofNat fr)), .val (.int (Int32.ofNat to))] [(.int (Int32.ofNat to))])) (fun _ zk => XS.iloadN X0.here hx rfl (hb hby d31_0) rfl zk) ?_
  refine Go.st (T' := s₁) (g' := (mkF m 2 #[.val (.int (Int32.ofNat fr)), .val (.int (Int32.ofNat to))] [(.int (Int32.ofNat fr)), (.int (Int32.ofNat to))])) (fun _ zk => XS.iloadN X0.here hx rfl (hb hby d31_1) rfl zk) ?_
  refine Go.st (T' := s₁) (g' := (mkF m 37 #[.val (.int (Int32.ofNat fr)), .val (.int (Int32.ofNat to))] [])) (fun _ zk => XS.icmpYes X0.here hx rfl (pc0 := 2) (pc' := 37) rfl (hb hby d31_2) rfl (flt (own_ofnl (by omega) (by omega) (by omega) : ¬ ((Int32.ofNat to) < (Int32.ofNat fr)))).2.1 (by decide) (by decide) zk) ?_
  refine Go.retV X0 hx hlk hret (hb hby d31_37) (by decide) (by decide) e0 ?_
  exact ⟨rfl, N0, rfl⟩
theorem d32_0 : decode jdk_29_method_69_code 0 = .ok (.iload_n 0, 1) := by decide +kernel
theorem d32_1 : decode jdk_29_method_69_code 1 = .ok (.iload_n 1, 1) := by decide +kernel
theorem d32_2 : decode jdk_29_method_69_code 2 = .ok (.if_icmp .gt 7, 3) := by decide +kernel
theorem d32_9 : decode jdk_29_method_69_code 9 = .ok (.iload_n 1, 1) := by decide +kernel
theorem d32_10 : decode jdk_29_method_69_code 10 = .ok (.ireturn, 1) := by decide +kernel
theorem d32_5 : decode jdk_29_method_69_code 5 = .ok (.iload_n 0, 1) := by decide +kernel
theorem d32_6 : decode jdk_29_method_69_code 6 = .ok (.goto 4, 3) := by decide +kernel
def rr_mathMin : Room := { frames := 0, cells := 0, slots := 0, locals := 0 }
theorem pn13 : plainFor (⟨"java/lang/Math", "min", "(II)I"⟩ : MethodName) = true := by decide +kernel
set_option maxRecDepth 65536 in
set_option maxHeartbeats 40000000 in
theorem rm_mathMin (l : Launch) (Z : State) (a0 : Array Value) (hw : ∀ d ∈ tables_1, d.before a0 Z = true) (ws : List Jvm.Cond) (x y : Nat) (h0 : Heap) (n0 : Nat) (Z0 : n0 ≤ h0.size) (h1 : y ≤ x) (hx0 : x < 2 ^ 31) :
    Con l Z (⟨"java/lang/Math", "min", "(II)I"⟩ : MethodName) jdk_29_method_69_code 2 (some .int) ws rr_mathMin #[(.int (Int32.ofNat x)), (.int (Int32.ofNat y))] h0 (fun v h L => v = some (.int (Int32.ofNat y)) ∧ Fr n0 L ∧ h = h0) := by
  refine Con.enter (Jvm.Free.JP.mathPlain rfl (by decide +kernel)) ?_
  intro p e s m below meth c s₁ X0 hx hZ hby hml hret hlk hown hnm e0
  have N0 := Fr.nil n0
  refine Go.cast (g' := (mkF m 0 #[.val (.int (Int32.ofNat x)), .val (.int (Int32.ofNat y))] [])) (by first | rfl | (simp [entryFrame, mkF, argsToLocals, Value.category]; done)) ?_
  refine Go.st (T' := s₁) (g' := (mkF m 1 #[.val (.int (Int32.ofNat x)), .val (.int (Int32.ofNat y))] [(.int (Int32.ofNat x))])) (fun _ zk => XS.iloadN X0.here hx rfl (hb hby d32_0) rfl zk) ?_
  refine Go.st (T' := s₁) (g' := (mkF m 2 #[.val (.int (Int32.ofNat x)), .val (.int (Int32.ofNat y))] [(.int (Int32.ofNat y)), (.int (Int32.ofNat x))])) (fun _ zk => XS.iloadN X0.here hx rfl (hb hby d32_1) rfl zk) ?_
  by_cases hc2 : (Int32.ofNat y) < (Int32.ofNat x)
  · refine Go.st (T' := s₁) (g' := (mkF m 9 #[.val (.int (Int32.ofNat x)), .val (.int (Int32.ofNat y))] [])) (fun _ zk => XS.icmpYes X0.here hx rfl (pc0 := 2) (pc' := 9) rfl (hb hby d32_2) rfl (tlt hc2).2.2.1 (by decide) (by decide) zk) ?_
    refine Go.st (T' := s₁) (g' := (mkF m 10 #[.val (.int (Int32.ofNat x)), .val (.int (Int32.ofNat y))] [(.int (Int32.ofNat y))])) (fun _ zk => XS.iloadN X0.here hx rfl (hb hby d32_9) rfl zk) ?_
    refine Go.retN X0 hx hlk hret rfl (by simp) (hb hby d32_10) (by decide) (by decide) e0 ?_
    exact ⟨rfl, N0, rfl⟩
  · refine Go.st (T' := s₁) (g' := (mkF m 5 #[.val (.int (Int32.ofNat x)), .val (.int (Int32.ofNat y))] [])) (fun _ zk => XS.icmpNo X0.here hx rfl (hb hby d32_2) rfl (flt hc2).2.2.1 zk) ?_
    refine Go.st (T' := s₁) (g' := (mkF m 6 #[.val (.int (Int32.ofNat x)), .val (.int (Int32.ofNat y))] [(.int (Int32.ofNat x))])) (fun _ zk => XS.iloadN X0.here hx rfl (hb hby d32_5) rfl zk) ?_
    refine Go.st (T' := s₁) (g' := (mkF m 10 #[.val (.int (Int32.ofNat x)), .val (.int (Int32.ofNat y))] [(.int (Int32.ofNat x))])) (fun _ zk => XS.goto X0.here hx rfl (pc0 := 6) (pc' := 10) rfl (hb hby d32_6) (by decide) (by decide) zk) ?_
    refine Go.retN X0 hx hlk hret rfl (by simp) (hb hby d32_10) (by decide) (by decide) e0 ?_
    rw [show x = y from Nat.le_antisymm (Nat.le_of_not_lt fun q => hc2 (own_oflt q hx0)) h1]
    exact ⟨rfl, N0, rfl⟩
theorem d30_0 : decode jdk_65_method_133_code 0 = .ok (.iload_n 1, 1) := by decide +kernel
theorem d30_1 : decode jdk_65_method_133_code 1 = .ok (.iload_n 2, 1) := by decide +kernel
theorem w138 {a0 : Array Value} {Z : State} (hw : ∀ d ∈ tables_1, d.before a0 Z = true) : ((Jvm.Cond.code ({ cls := "java/util/Arrays", name := "checkLength", desc := "(II)V" } : Jvm.MethodName) jdk_65_method_131_code (2 : Nat) (Option.none : Option Jvm.ClassFile.FieldType))).before a0 Z = true := hw _ (List.mem_of_getElem? (i := 138) rfl)
theorem w131 {a0 : Array Value} {Z : State} (hw : ∀ d ∈ tables_1, d.before a0 Z = true) : ((Jvm.Cond.initialized "java/util/Arrays")).before a0 Z = true := hw _ (List.mem_of_getElem? (i := 131) rfl)
theorem pd14 : parseMethodDescriptor "(II)V" = some ⟨[.int, .int], none⟩ := by decide +kernel
theorem d30_2 : decode jdk_65_method_133_code 2 = .ok (.invokestatic 343, 3) := by decide +kernel
theorem w136 {a0 : Array Value} {Z : State} (hw : ∀ d ∈ tables_1, d.before a0 Z = true) : ((Jvm.Cond.methodLink "java/util/Arrays" (343 : Nat) ({ cls := "java/util/Arrays", name := "checkLength", desc := "(II)V" } : Jvm.MethodName))).before a0 Z = true := hw _ (List.mem_of_getElem? (i := 136) rfl)
theorem w137 {a0 : Array Value} {Z : State} (hw : ∀ d ∈ tables_1, d.before a0 Z = true) : ((Jvm.Cond.static ({ cls := "java/util/Arrays", name := "checkLength", desc := "(II)V" } : Jvm.MethodName))).before a0 Z = true := hw _ (List.mem_of_getElem? (i := 137) rfl)
theorem d30_5 : decode jdk_65_method_133_code 5 = .ok (.iload_n 2, 1) := by decide +kernel
theorem d30_6 : decode jdk_65_method_133_code 6 = .ok (.iload_n 1, 1) := by decide +kernel
theorem d30_7 : decode jdk_65_method_133_code 7 = .ok (.isub, 1) := by decide +kernel
theorem d30_8 : decode jdk_65_method_133_code 8 = .ok (.istore_n 3, 1) := by decide +kernel
theorem d30_9 : decode jdk_65_method_133_code 9 = .ok (.iload_n 3, 1) := by decide +kernel
theorem d30_10 : decode jdk_65_method_133_code 10 = .ok (.newarray .byte, 2) := by decide +kernel
theorem d30_12 : decode jdk_65_method_133_code 12 = .ok (.astore 4, 2) := by decide +kernel
theorem d30_14 : decode jdk_65_method_133_code 14 = .ok (.aload_n 0, 1) := by decide +kernel
theorem d30_15 : decode jdk_65_method_133_code 15 = .ok (.iload_n 1, 1) := by decide +kernel
theorem d30_16 : decode jdk_65_method_133_code 16 = .ok (.aload 4, 2) := by decide +kernel
theorem d30_18 : decode jdk_65_method_133_code 18 = .ok (.iconst 0, 1) := by decide +kernel
theorem d30_19 : decode jdk_65_method_133_code 19 = .ok (.aload_n 0, 1) := by decide +kernel
theorem d30_20 : decode jdk_65_method_133_code 20 = .ok (.arraylength, 1) := by decide +kernel
theorem d30_21 : decode jdk_65_method_133_code 21 = .ok (.iload_n 1, 1) := by decide +kernel
theorem d30_22 : decode jdk_65_method_133_code 22 = .ok (.isub, 1) := by decide +kernel
theorem d30_23 : decode jdk_65_method_133_code 23 = .ok (.iload_n 3, 1) := by decide +kernel
theorem w142 {a0 : Array Value} {Z : State} (hw : ∀ d ∈ tables_1, d.before a0 Z = true) : ((Jvm.Cond.code ({ cls := "java/lang/Math", name := "min", desc := "(II)I" } : Jvm.MethodName) jdk_29_method_69_code (2 : Nat) (Option.some Jvm.ClassFile.FieldType.int))).before a0 Z = true := hw _ (List.mem_of_getElem? (i := 142) rfl)
theorem w141 {a0 : Array Value} {Z : State} (hw : ∀ d ∈ tables_1, d.before a0 Z = true) : ((Jvm.Cond.initialized "java/lang/Math")).before a0 Z = true := hw _ (List.mem_of_getElem? (i := 141) rfl)
theorem pd15 : parseMethodDescriptor "(II)I" = some ⟨[.int, .int], some .int⟩ := by decide +kernel
theorem d30_24 : decode jdk_65_method_133_code 24 = .ok (.invokestatic 304, 3) := by decide +kernel
theorem w139 {a0 : Array Value} {Z : State} (hw : ∀ d ∈ tables_1, d.before a0 Z = true) : ((Jvm.Cond.methodLink "java/util/Arrays" (304 : Nat) ({ cls := "java/lang/Math", name := "min", desc := "(II)I" } : Jvm.MethodName))).before a0 Z = true := hw _ (List.mem_of_getElem? (i := 139) rfl)
theorem w140 {a0 : Array Value} {Z : State} (hw : ∀ d ∈ tables_1, d.before a0 Z = true) : ((Jvm.Cond.static ({ cls := "java/lang/Math", name := "min", desc := "(II)I" } : Jvm.MethodName))).before a0 Z = true := hw _ (List.mem_of_getElem? (i := 140) rfl)
theorem w143 {a0 : Array Value} {Z : State} (hw : ∀ d ∈ tables_1, d.before a0 Z = true) : ((Jvm.Cond.methodLink "java/util/Arrays" (150 : Nat) ({ cls := "java/lang/System", name := "arraycopy", desc := "(Ljava/lang/Object;ILjava/lang/Object;II)V" } : Jvm.MethodName))).before a0 Z = true := hw _ (List.mem_of_getElem? (i := 143) rfl)
theorem w146 {a0 : Array Value} {Z : State} (hw : ∀ d ∈ tables_1, d.before a0 Z = true) : ((Jvm.Cond.native ({ cls := "java/lang/System", name := "arraycopy", desc := "(Ljava/lang/Object;ILjava/lang/Object;II)V" } : Jvm.MethodName))).before a0 Z = true := hw _ (List.mem_of_getElem? (i := 146) rfl)
theorem w144 {a0 : Array Value} {Z : State} (hw : ∀ d ∈ tables_1, d.before a0 Z = true) : ((Jvm.Cond.static ({ cls := "java/lang/System", name := "arraycopy", desc := "(Ljava/lang/Object;ILjava/lang/Object;II)V" } : Jvm.MethodName))).before a0 Z = true := hw _ (List.mem_of_getElem? (i := 144) rfl)
theorem w145 {a0 : Array Value} {Z : State} (hw : ∀ d ∈ tables_1, d.before a0 Z = true) : ((Jvm.Cond.initialized "java/lang/System")).before a0 Z = true := hw _ (List.mem_of_getElem? (i := 145) rfl)
theorem d30_27 : decode jdk_65_method_133_code 27 = .ok (.invokestatic 150, 3) := by decide +kernel
theorem d30_30 : decode jdk_65_method_133_code 30 = .ok (.aload 4, 2) := by decide +kernel
theorem d30_32 : decode jdk_65_method_133_code 32 = .ok (.areturn, 1) := by decide +kernel
def rr_corb : Room := { frames := 1, cells := 1, slots := 7, locals := 18 }
set_option maxRecDepth 65536 in
set_option maxHeartbeats 40000000 in
theorem rm_corb (l : Launch) (Z : State) (a0 : Array Value) (hw : ∀ d ∈ tables_1, d.before a0 Z = true) (ws : List Jvm.Cond) (t : Addr) (k : ClassId) (bs : List Int32) (fr to : Nat) (h0 : Heap) (n0 : Nat) (Z0 : n0 ≤ h0.size) (V1 : Arv Z h0 t k .byte (Int32.ofNat bs.length) (bs.map Value.int) (.int (0 : Int32))) (lb : bs.length < 2 ^ 31) (hft : fr ≤ to) (htl : to ≤ bs.length) (hcap : to - fr ≤ 7) :
    Con l Z (⟨"java/util/Arrays", "copyOfRangeByte", "([BII)[B"⟩ : MethodName) jdk_65_method_133_code 5 (some (.array .byte)) ws rr_corb #[(.ref t), (.int (Int32.ofNat fr)), (.int (Int32.ofNat to))] h0 (fun v h L => ∃ (d : Addr) (kd : ClassId), v = some (.ref d) ∧ Fr n0 L ∧ Ext h0 h ∧ h0.size ≤ d ∧ Arv Z h d kd .byte (Int32.ofNat (to - fr)) (((bs.drop fr).take (to - fr)).map Value.int) (.int (0 : Int32))) := by
  refine Con.enter (plainFor_of_name pn12) ?_
  intro p e s m below meth c s₁ X0 hx hZ hby hml hret hlk hown hnm e0
  have N0 := Fr.nil n0
  refine Go.cast (g' := (mkF m 0 #[.val (.ref t), .val (.int (Int32.ofNat fr)), .val (.int (Int32.ofNat to)), .unset, .unset] [])) (by first | rfl | (simp [entryFrame, mkF, argsToLocals, Value.category]; done)) ?_
  refine Go.st (T' := s₁) (g' := (mkF m 1 #[.val (.ref t), .val (.int (Int32.ofNat fr)), .val (.int (Int32.ofNat to)), .unset, .unset] [(.int (Int32.ofNat fr))])) (fun _ zk => XS.iloadN X0.here hx rfl (hb hby d30_0) rfl zk) ?_
  refine Go.st (T' := s₁) (g' := (mkF m 2 #[.val (.ref t), .val (.int (Int32.ofNat fr)), .val (.int (Int32.ofNat to)), .unset, .unset] [(.int (Int32.ofNat to)), (.int (Int32.ofNat fr))])) (fun _ zk => XS.iloadN X0.here hx rfl (hb hby d30_1) rfl zk) ?_
  refine Go.callSt (y := (⟨"java/util/Arrays", "checkLength", "(II)V"⟩ : MethodName)) X0 hx hZ hown e0 (w136 hw) (w137 hw) (w131 hw) (w138 hw) (by decide) (argsL := [(.int (Int32.ofNat fr)), (.int (Int32.ofNat to))]) (rest := []) (W := 0) (rm_chkLen l Z a0 hw [] fr to h0 n0 Z0 hft (by omega)) rfl (lenOf pd14 rfl) rfl (by rw [hml]; rfl) rfl (by show 2 * 0 + _ ≤ _; exact Nat.le_of_eq rfl) (by decide) (by decide) (by decide) (by decide) (hb hby d30_2) ?_
  intro v1 T1 h1 L1 X1 e1 q1
  obtain ⟨hv1, Nf1, hh1⟩ := q1
  subst hv1
  have E1 : T1.heap = h0 := e1.trans hh1
  have N1 := Fr.app N0 Nf1
  show Go p.tables e below _ T1 (mkF m 5 #[.val (.ref t), .val (.int (Int32.ofNat fr)), .val (.int (Int32.ofNat to)), .unset, .unset] [])
  refine Go.st (T' := T1) (g' := (mkF m 6 #[.val (.ref t), .val (.int (Int32.ofNat fr)), .val (.int (Int32.ofNat to)), .unset, .unset] [(.int (Int32.ofNat to))])) (fun _ zk => XS.iloadN X1.here hx rfl (hb hby d30_5) rfl zk) ?_
  refine Go.st (T' := T1) (g' := (mkF m 7 #[.val (.ref t), .val (.int (Int32.ofNat fr)), .val (.int (Int32.ofNat to)), .unset, .unset] [(.int (Int32.ofNat fr)), (.int (Int32.ofNat to))])) (fun _ zk => XS.iloadN X1.here hx rfl (hb hby d30_6) rfl zk) ?_
  refine Go.st (T' := T1) (g' := (mkF m 8 #[.val (.ref t), .val (.int (Int32.ofNat fr)), .val (.int (Int32.ofNat to)), .unset, .unset] [(.int ((Int32.ofNat to) - (Int32.ofNat fr)))])) (fun _ zk => XS.isub X1.here hx rfl (hb hby d30_7) rfl zk) ?_
  rw [own_subn hft (by omega)]
  refine Go.st (T' := T1) (g' := (mkF m 9 #[.val (.ref t), .val (.int (Int32.ofNat fr)), .val (.int (Int32.ofNat to)), .val (.int (Int32.ofNat (to - fr))), .unset] [])) (fun _ zk => XS.istoreN X1.here hx rfl (hb hby d30_8) rfl (l' := #[.val (.ref t), .val (.int (Int32.ofNat fr)), .val (.int (Int32.ofNat to)), .val (.int (Int32.ofNat (to - fr))), .unset]) rfl zk) ?_
  refine Go.st (T' := T1) (g' := (mkF m 10 #[.val (.ref t), .val (.int (Int32.ofNat fr)), .val (.int (Int32.ofNat to)), .val (.int (Int32.ofNat (to - fr))), .unset] [(.int (Int32.ofNat (to - fr)))])) (fun _ zk => XS.iloadN X1.here hx rfl (hb hby d30_9) rfl zk) ?_
  obtain ⟨T2, h2, k2, X2, e2, E2, A2, st2⟩ := newP (aty := .byte) X1 hx hZ (w3 hw) E1 (g := (mkF m 10 #[.val (.ref t), .val (.int (Int32.ofNat fr)), .val (.int (Int32.ofNat to)), .val (.int (Int32.ofNat (to - fr))), .unset] [(.int (Int32.ofNat (to - fr)))])) rfl (hb hby d30_10) rfl (own_ofn0 (by omega)) (cap := 7) (by rw [own_clamp (by omega)]; exact hcap) (by decide) (by decide) (by decide)
  obtain ⟨b2, g2⟩ : ∃ z, z = h0.size := ⟨_, rfl⟩
  rw [← g2] at A2 st2
  have V2 := own_newA A2 (by omega)
  refine Go.st (T' := T2) (g' := (mkF m 12 #[.val (.ref t), .val (.int (Int32.ofNat fr)), .val (.int (Int32.ofNat to)), .val (.int (Int32.ofNat (to - fr))), .unset] [(.ref b2)])) (fun _ zk => st2 _ zk) ?_
  refine Go.st (T' := T2) (g' := (mkF m 14 #[.val (.ref t), .val (.int (Int32.ofNat fr)), .val (.int (Int32.ofNat to)), .val (.int (Int32.ofNat (to - fr))), .val (.ref b2)] [])) (fun _ zk => XS.astore X2.here hx rfl (hb hby d30_12) rfl rfl (l' := #[.val (.ref t), .val (.int (Int32.ofNat fr)), .val (.int (Int32.ofNat to)), .val (.int (Int32.ofNat (to - fr))), .val (.ref b2)]) rfl zk) ?_
  refine Go.st (T' := T2) (g' := (mkF m 15 #[.val (.ref t), .val (.int (Int32.ofNat fr)), .val (.int (Int32.ofNat to)), .val (.int (Int32.ofNat (to - fr))), .val (.ref b2)] [(.ref t)])) (fun _ zk => XS.aloadN X2.here hx rfl (hb hby d30_14) rfl rfl zk) ?_
  refine Go.st (T' := T2) (g' := (mkF m 16 #[.val (.ref t), .val (.int (Int32.ofNat fr)), .val (.int (Int32.ofNat to)), .val (.int (Int32.ofNat (to - fr))), .val (.ref b2)] [(.int (Int32.ofNat fr)), (.ref t)])) (fun _ zk => XS.iloadN X2.here hx rfl (hb hby d30_15) rfl zk) ?_
  refine Go.st (T' := T2) (g' := (mkF m 18 #[.val (.ref t), .val (.int (Int32.ofNat fr)), .val (.int (Int32.ofNat to)), .val (.int (Int32.ofNat (to - fr))), .val (.ref b2)] [(.ref b2), (.int (Int32.ofNat fr)), (.ref t)])) (fun _ zk => XS.aload X2.here hx rfl (hb hby d30_16) rfl rfl zk) ?_
  refine Go.st (T' := T2) (g' := (mkF m 19 #[.val (.ref t), .val (.int (Int32.ofNat fr)), .val (.int (Int32.ofNat to)), .val (.int (Int32.ofNat (to - fr))), .val (.ref b2)] [(.int (0 : Int32)), (.ref b2), (.int (Int32.ofNat fr)), (.ref t)])) (fun _ zk => XS.iconst X2.here hx rfl (hb hby d30_18) zk) ?_
  refine Go.st (T' := T2) (g' := (mkF m 20 #[.val (.ref t), .val (.int (Int32.ofNat fr)), .val (.int (Int32.ofNat to)), .val (.int (Int32.ofNat (to - fr))), .val (.ref b2)] [(.ref t), (.int (0 : Int32)), (.ref b2), (.int (Int32.ofNat fr)), (.ref t)])) (fun _ zk => XS.aloadN X2.here hx rfl (hb hby d30_19) rfl rfl zk) ?_
  have xt3 : Ext h0 h2 := E2
  have f4 := V1.ext xt3
  refine Go.st (T' := T2) (g' := (mkF m 21 #[.val (.ref t), .val (.int (Int32.ofNat fr)), .val (.int (Int32.ofNat to)), .val (.int (Int32.ofNat (to - fr))), .val (.ref b2)] [(.int (Int32.ofNat bs.length)), (.int (0 : Int32)), (.ref b2), (.int (Int32.ofNat fr)), (.ref t)])) (fun _ zk => lenV X2 hx hZ e2 f4 (g := (mkF m 20 #[.val (.ref t), .val (.int (Int32.ofNat fr)), .val (.int (Int32.ofNat to)), .val (.int (Int32.ofNat (to - fr))), .val (.ref b2)] [(.ref t), (.int (0 : Int32)), (.ref b2), (.int (Int32.ofNat fr)), (.ref t)])) rfl (rest := [(.int (0 : Int32)), (.ref b2), (.int (Int32.ofNat fr)), (.ref t)]) rfl (hb hby d30_20) zk) ?_
  refine Go.st (T' := T2) (g' := (mkF m 22 #[.val (.ref t), .val (.int (Int32.ofNat fr)), .val (.int (Int32.ofNat to)), .val (.int (Int32.ofNat (to - fr))), .val (.ref b2)] [(.int (Int32.ofNat fr)), (.int (Int32.ofNat bs.length)), (.int (0 : Int32)), (.ref b2), (.int (Int32.ofNat fr)), (.ref t)])) (fun _ zk => XS.iloadN X2.here hx rfl (hb hby d30_21) rfl zk) ?_
  refine Go.st (T' := T2) (g' := (mkF m 23 #[.val (.ref t), .val (.int (Int32.ofNat fr)), .val (.int (Int32.ofNat to)), .val (.int (Int32.ofNat (to - fr))), .val (.ref b2)] [(.int ((Int32.ofNat bs.length) - (Int32.ofNat fr))), (.int (0 : Int32)), (.ref b2), (.int (Int32.ofNat fr)), (.ref t)])) (fun _ zk => XS.isub X2.here hx rfl (hb hby d30_22) rfl zk) ?_
  rw [own_subn (Nat.le_trans hft htl) lb]
  refine Go.st (T' := T2) (g' := (mkF m 24 #[.val (.ref t), .val (.int (Int32.ofNat fr)), .val (.int (Int32.ofNat to)), .val (.int (Int32.ofNat (to - fr))), .val (.ref b2)] [(.int (Int32.ofNat (to - fr))), (.int (Int32.ofNat (bs.length - fr))), (.int (0 : Int32)), (.ref b2), (.int (Int32.ofNat fr)), (.ref t)])) (fun _ zk => XS.iloadN X2.here hx rfl (hb hby d30_23) rfl zk) ?_
  refine Go.callSt (y := (⟨"java/lang/Math", "min", "(II)I"⟩ : MethodName)) X2 hx hZ hown e2 (w139 hw) (w140 hw) (w141 hw) (w142 hw) (by decide) (argsL := [(.int (Int32.ofNat (bs.length - fr))), (.int (Int32.ofNat (to - fr)))]) (rest := [(.int (0 : Int32)), (.ref b2), (.int (Int32.ofNat fr)), (.ref t)]) (W := 4) (rm_mathMin l Z a0 hw [] (bs.length - fr) (to - fr) h2 n0 (Nat.le_trans Z0 E2.1) (by omega) (by omega)) rfl (lenOf pd15 rfl) rfl (by rw [hml]; rfl) rfl (by show 2 * 0 + _ ≤ _; exact Nat.le_of_eq rfl) (by decide) (by decide) (by decide) (by decide) (hb hby d30_24) ?_
  intro v5 T5 h5 L5 X5 e5 q5
  obtain ⟨hv5, Nf5, hh5⟩ := q5
  subst hv5
  have E5 : T5.heap = h2 := e5.trans hh5
  have N5 := Fr.app N1 Nf5
  show Go p.tables e below _ T5 (mkF m 27 #[.val (.ref t), .val (.int (Int32.ofNat fr)), .val (.int (Int32.ofNat to)), .val (.int (Int32.ofNat (to - fr))), .val (.ref b2)] [(.int (Int32.ofNat (to - fr))), (.int (0 : Int32)), (.ref b2), (.int (Int32.ofNat fr)), (.ref t)])
  obtain ⟨T6, h6, X6, e6, K6, V6, st6⟩ := own_copyV X5 hx hZ hown (w143 hw) (w146 hw) (w144 hw) (w145 hw) E5 f4 V2 (f := fr) (n := to - fr) (by omega) lb (g := (mkF m 27 #[.val (.ref t), .val (.int (Int32.ofNat fr)), .val (.int (Int32.ofNat to)), .val (.int (Int32.ofNat (to - fr))), .val (.ref b2)] [(.int (Int32.ofNat (to - fr))), (.int (0 : Int32)), (.ref b2), (.int (Int32.ofNat fr)), (.ref t)])) rfl (by rw [hml]; rfl) (rest := []) rfl (hb hby d30_27) (by decide) (by show 2 * 0 + 0 + (nativeFrameWords "java/lang/System" "arraycopy" 5 + 11) ≤ rr_corb.locals; decide +kernel)
  have N6 := Fr.app N5 (own_frC (n := to - fr) (Nat.le_trans Z0 (Nat.le_trans (Nat.le_refl _) (Nat.le_of_eq g2.symm))))
  refine Go.st (T' := T6) (g' := (mkF m 30 #[.val (.ref t), .val (.int (Int32.ofNat fr)), .val (.int (Int32.ofNat to)), .val (.int (Int32.ofNat (to - fr))), .val (.ref b2)] [])) (fun _ zk => st6 _ zk) ?_
  refine Go.st (T' := T6) (g' := (mkF m 32 #[.val (.ref t), .val (.int (Int32.ofNat fr)), .val (.int (Int32.ofNat to)), .val (.int (Int32.ofNat (to - fr))), .val (.ref b2)] [(.ref b2)])) (fun _ zk => XS.aload X6.here hx rfl (hb hby d30_30) rfl rfl zk) ?_
  have xt7 : Ext h0 h6 := (xt3.thenK K6 (allS (P := fun x => h0.size ≤ x) (Nat.le_of_eq g2.symm) all0))
  refine Go.retA X6 hx hlk hret rfl rfl (hb hby d30_32) (by decide) (by decide) e6 ?_
  exact ⟨_, _, rfl, N6, xt7, (Nat.le_trans (Nat.le_refl _) (Nat.le_of_eq g2.symm)), V6⟩
theorem d29_0 : decode jdk_65_method_132_code 0 = .ok (.iload_n 1, 1) := by decide +kernel
theorem d29_1 : decode jdk_65_method_132_code 1 = .ok (.ifCond .ne 9, 3) := by decide +kernel
theorem d29_4 : decode jdk_65_method_132_code 4 = .ok (.iload_n 2, 1) := by decide +kernel
theorem d29_5 : decode jdk_65_method_132_code 5 = .ok (.aload_n 0, 1) := by decide +kernel
theorem d29_6 : decode jdk_65_method_132_code 6 = .ok (.arraylength, 1) := by decide +kernel
theorem d29_7 : decode jdk_65_method_132_code 7 = .ok (.if_icmp .eq 10, 3) := by decide +kernel
theorem d29_10 : decode jdk_65_method_132_code 10 = .ok (.aload_n 0, 1) := by decide +kernel
theorem d29_11 : decode jdk_65_method_132_code 11 = .ok (.iload_n 1, 1) := by decide +kernel
theorem d29_12 : decode jdk_65_method_132_code 12 = .ok (.iload_n 2, 1) := by decide +kernel
theorem w135 {a0 : Array Value} {Z : State} (hw : ∀ d ∈ tables_1, d.before a0 Z = true) : ((Jvm.Cond.code ({ cls := "java/util/Arrays", name := "copyOfRangeByte", desc := "([BII)[B" } : Jvm.MethodName) jdk_65_method_133_code (5 : Nat) (Option.some (Jvm.ClassFile.FieldType.array Jvm.ClassFile.FieldType.byte)))).before a0 Z = true := hw _ (List.mem_of_getElem? (i := 135) rfl)
theorem pd16 : parseMethodDescriptor "([BII)[B" = some ⟨[(.array .byte), .int, .int], some (.array .byte)⟩ := by decide +kernel
theorem d29_13 : decode jdk_65_method_132_code 13 = .ok (.invokestatic 339, 3) := by decide +kernel
theorem w133 {a0 : Array Value} {Z : State} (hw : ∀ d ∈ tables_1, d.before a0 Z = true) : ((Jvm.Cond.methodLink "java/util/Arrays" (339 : Nat) ({ cls := "java/util/Arrays", name := "copyOfRangeByte", desc := "([BII)[B" } : Jvm.MethodName))).before a0 Z = true := hw _ (List.mem_of_getElem? (i := 133) rfl)
theorem w134 {a0 : Array Value} {Z : State} (hw : ∀ d ∈ tables_1, d.before a0 Z = true) : ((Jvm.Cond.static ({ cls := "java/util/Arrays", name := "copyOfRangeByte", desc := "([BII)[B" } : Jvm.MethodName))).before a0 Z = true := hw _ (List.mem_of_getElem? (i := 134) rfl)
theorem d29_16 : decode jdk_65_method_132_code 16 = .ok (.areturn, 1) := by decide +kernel
def rr_cor : Room := { frames := 2, cells := 1, slots := 7, locals := 34 }
set_option maxRecDepth 65536 in
set_option maxHeartbeats 40000000 in
theorem rm_cor (l : Launch) (Z : State) (a0 : Array Value) (hw : ∀ d ∈ tables_1, d.before a0 Z = true) (ws : List Jvm.Cond) (t : Addr) (k : ClassId) (bs : List Int32) (fr to : Nat) (h0 : Heap) (n0 : Nat) (Z0 : n0 ≤ h0.size) (V1 : Arv Z h0 t k .byte (Int32.ofNat bs.length) (bs.map Value.int) (.int (0 : Int32))) (lb : bs.length < 2 ^ 31) (hft : fr ≤ to) (htl : to ≤ bs.length) (hcap : to - fr ≤ 7) (hne : fr = 0 → to ≠ bs.length) :
    Con l Z (⟨"java/util/Arrays", "copyOfRange", "([BII)[B"⟩ : MethodName) jdk_65_method_132_code 3 (some (.array .byte)) ws rr_cor #[(.ref t), (.int (Int32.ofNat fr)), (.int (Int32.ofNat to))] h0 (fun v h L => ∃ (d : Addr) (kd : ClassId), v = some (.ref d) ∧ Fr n0 L ∧ Ext h0 h ∧ h0.size ≤ d ∧ Arv Z h d kd .byte (Int32.ofNat (to - fr)) (((bs.drop fr).take (to - fr)).map Value.int) (.int (0 : Int32))) := by
  refine Con.enter (plainFor_of_name pn12) ?_
  intro p e s m below meth c s₁ X0 hx hZ hby hml hret hlk hown hnm e0
  have N0 := Fr.nil n0
  refine Go.cast (g' := (mkF m 0 #[.val (.ref t), .val (.int (Int32.ofNat fr)), .val (.int (Int32.ofNat to))] [])) (by first | rfl | (simp [entryFrame, mkF, argsToLocals, Value.category]; done)) ?_
  refine Go.st (T' := s₁) (g' := (mkF m 1 #[.val (.ref t), .val (.int (Int32.ofNat fr)), .val (.int (Int32.ofNat to))] [(.int (Int32.ofNat fr))])) (fun _ zk => XS.iloadN X0.here hx rfl (hb hby d29_0) rfl zk) ?_
  by_cases hc1 : (Int32.ofNat fr) = (0 : Int32)
  · refine Go.st (T' := s₁) (g' := (mkF m 4 #[.val (.ref t), .val (.int (Int32.ofNat fr)), .val (.int (Int32.ofNat to))] [])) (fun _ zk => XS.ifNo X0.here hx rfl (hb hby d29_1) rfl ((if0 _ _).trans (teq hc1).2) zk) ?_
    refine Go.st (T' := s₁) (g' := (mkF m 5 #[.val (.ref t), .val (.int (Int32.ofNat fr)), .val (.int (Int32.ofNat to))] [(.int (Int32.ofNat to))])) (fun _ zk => XS.iloadN X0.here hx rfl (hb hby d29_4) rfl zk) ?_
    refine Go.st (T' := s₁) (g' := (mkF m 6 #[.val (.ref t), .val (.int (Int32.ofNat fr)), .val (.int (Int32.ofNat to))] [(.ref t), (.int (Int32.ofNat to))])) (fun _ zk => XS.aloadN X0.here hx rfl (hb hby d29_5) rfl rfl zk) ?_
    refine Go.st (T' := s₁) (g' := (mkF m 7 #[.val (.ref t), .val (.int (Int32.ofNat fr)), .val (.int (Int32.ofNat to))] [(.int (Int32.ofNat bs.length)), (.int (Int32.ofNat to))])) (fun _ zk => lenV X0 hx hZ e0 V1 (g := (mkF m 6 #[.val (.ref t), .val (.int (Int32.ofNat fr)), .val (.int (Int32.ofNat to))] [(.ref t), (.int (Int32.ofNat to))])) rfl (rest := [(.int (Int32.ofNat to))]) rfl (hb hby d29_6) zk) ?_
    refine Go.st (T' := s₁) (g' := (mkF m 10 #[.val (.ref t), .val (.int (Int32.ofNat fr)), .val (.int (Int32.ofNat to))] [])) (fun _ zk => XS.icmpNo X0.here hx rfl (hb hby d29_7) rfl (feq (fun q => hne (own_ofinj (by omega) (by decide) hc1) (own_ofinj (by omega) lb q) : ¬ ((Int32.ofNat to) = (Int32.ofNat bs.length)))).1 zk) ?_
    refine Go.st (T' := s₁) (g' := (mkF m 11 #[.val (.ref t), .val (.int (Int32.ofNat fr)), .val (.int (Int32.ofNat to))] [(.ref t)])) (fun _ zk => XS.aloadN X0.here hx rfl (hb hby d29_10) rfl rfl zk) ?_
    refine Go.st (T' := s₁) (g' := (mkF m 12 #[.val (.ref t), .val (.int (Int32.ofNat fr)), .val (.int (Int32.ofNat to))] [(.int (Int32.ofNat fr)), (.ref t)])) (fun _ zk => XS.iloadN X0.here hx rfl (hb hby d29_11) rfl zk) ?_
    refine Go.st (T' := s₁) (g' := (mkF m 13 #[.val (.ref t), .val (.int (Int32.ofNat fr)), .val (.int (Int32.ofNat to))] [(.int (Int32.ofNat to)), (.int (Int32.ofNat fr)), (.ref t)])) (fun _ zk => XS.iloadN X0.here hx rfl (hb hby d29_12) rfl zk) ?_
    refine Go.callSt (y := (⟨"java/util/Arrays", "copyOfRangeByte", "([BII)[B"⟩ : MethodName)) X0 hx hZ hown e0 (w133 hw) (w134 hw) (w131 hw) (w135 hw) (by decide) (argsL := [(.ref t), (.int (Int32.ofNat fr)), (.int (Int32.ofNat to))]) (rest := []) (W := 0) (rm_corb l Z a0 hw [] t k bs fr to h0 n0 Z0 V1 lb hft htl hcap) rfl (lenOf pd16 rfl) rfl (by rw [hml]; rfl) rfl (by show 2 * 0 + _ ≤ _; exact Nat.le_of_eq rfl) (by decide) (by decide) (by decide) (by decide) (hb hby d29_13) ?_
    intro v1 T1 h1 L1 X1 e1 q1
    obtain ⟨d, kd, hv1, Nf1, E1, ge1, V1⟩ := q1
    subst hv1
    have N1 := Fr.app N0 Nf1
    show Go p.tables e below _ T1 (mkF m 16 #[.val (.ref t), .val (.int (Int32.ofNat fr)), .val (.int (Int32.ofNat to))] [(.ref d)])
    have xt2 : Ext h0 h1 := E1
    refine Go.retA X1 hx hlk hret rfl rfl (hb hby d29_16) (by decide) (by decide) e1 ?_
    exact ⟨_, _, rfl, N1, xt2, (Nat.le_trans (Nat.le_refl _) ge1), V1⟩
  · refine Go.st (T' := s₁) (g' := (mkF m 10 #[.val (.ref t), .val (.int (Int32.ofNat fr)), .val (.int (Int32.ofNat to))] [])) (fun _ zk => XS.ifYes X0.here hx rfl (pc0 := 1) (pc' := 10) rfl (hb hby d29_1) rfl ((if0 _ _).trans (feq hc1).2) (by decide) (by decide) zk) ?_
    refine Go.st (T' := s₁) (g' := (mkF m 11 #[.val (.ref t), .val (.int (Int32.ofNat fr)), .val (.int (Int32.ofNat to))] [(.ref t)])) (fun _ zk => XS.aloadN X0.here hx rfl (hb hby d29_10) rfl rfl zk) ?_
    refine Go.st (T' := s₁) (g' := (mkF m 12 #[.val (.ref t), .val (.int (Int32.ofNat fr)), .val (.int (Int32.ofNat to))] [(.int (Int32.ofNat fr)), (.ref t)])) (fun _ zk => XS.iloadN X0.here hx rfl (hb hby d29_11) rfl zk) ?_
    refine Go.st (T' := s₁) (g' := (mkF m 13 #[.val (.ref t), .val (.int (Int32.ofNat fr)), .val (.int (Int32.ofNat to))] [(.int (Int32.ofNat to)), (.int (Int32.ofNat fr)), (.ref t)])) (fun _ zk => XS.iloadN X0.here hx rfl (hb hby d29_12) rfl zk) ?_
    refine Go.callSt (y := (⟨"java/util/Arrays", "copyOfRangeByte", "([BII)[B"⟩ : MethodName)) X0 hx hZ hown e0 (w133 hw) (w134 hw) (w131 hw) (w135 hw) (by decide) (argsL := [(.ref t), (.int (Int32.ofNat fr)), (.int (Int32.ofNat to))]) (rest := []) (W := 0) (rm_corb l Z a0 hw [] t k bs fr to h0 n0 Z0 V1 lb hft htl hcap) rfl (lenOf pd16 rfl) rfl (by rw [hml]; rfl) rfl (by show 2 * 0 + _ ≤ _; exact Nat.le_of_eq rfl) (by decide) (by decide) (by decide) (by decide) (hb hby d29_13) ?_
    intro v3 T3 h3 L3 X3 e3 q3
    obtain ⟨d, kd, hv3, Nf3, E3, ge3, V3⟩ := q3
    subst hv3
    have N3 := Fr.app N0 Nf3
    show Go p.tables e below _ T3 (mkF m 16 #[.val (.ref t), .val (.int (Int32.ofNat fr)), .val (.int (Int32.ofNat to))] [(.ref d)])
    have xt4 : Ext h0 h3 := E3
    refine Go.retA X3 hx hlk hret rfl rfl (hb hby d29_16) (by decide) (by decide) e3 ?_
    exact ⟨_, _, rfl, N3, xt4, (Nat.le_trans (Nat.le_refl _) ge3), V3⟩
theorem d12_0 : decode jdk_42_method_151_code 0 = .ok (.aload_n 0, 1) := by decide +kernel
theorem d12_1 : decode jdk_42_method_151_code 1 = .ok (.invokespecial 1, 3) := by decide +kernel
theorem d12_4 : decode jdk_42_method_151_code 4 = .ok (.aload_n 0, 1) := by decide +kernel
theorem d12_5 : decode jdk_42_method_151_code 5 = .ok (.aload_n 1, 1) := by decide +kernel
theorem d12_6 : decode jdk_42_method_151_code 6 = .ok (.putfield 9, 3) := by decide +kernel
theorem d12_9 : decode jdk_42_method_151_code 9 = .ok (.aload_n 0, 1) := by decide +kernel
theorem d12_10 : decode jdk_42_method_151_code 10 = .ok (.iload_n 2, 1) := by decide +kernel
theorem d12_11 : decode jdk_42_method_151_code 11 = .ok (.putfield 15, 3) := by decide +kernel
theorem d12_14 : decode jdk_42_method_151_code 14 = .ok (.return_, 1) := by decide +kernel
def rr_strBB : Room := { frames := 1, cells := 0, slots := 0, locals := 12 }
set_option maxRecDepth 65536 in
set_option maxHeartbeats 40000000 in
theorem rm_strBB (l : Launch) (Z : State) (a0 : Array Value) (hw : ∀ d ∈ tables_1, d.before a0 Z = true) (ws : List Jvm.Cond) (a1 : Addr) (t : Addr) (h0 : Heap) (n0 : Nat) (Z0 : n0 ≤ h0.size) (E0 : Exa Z h0 a1 "java/lang/String") (g0 : n0 ≤ a1) (F0_0 : Fld Z h0 a1 "java/lang/String" "value" "[B" .null) (F0_1 : Fld Z h0 a1 "java/lang/String" "coder" "B" (.int (0 : Int32))) :
    Con l Z (⟨"java/lang/String", "<init>", "([BB)V"⟩ : MethodName) jdk_42_method_151_code 3 none ws rr_strBB #[(.ref a1), (.ref t), (.int (0 : Int32))] h0 (fun v h L => v = none ∧ Fr n0 L ∧ Keep h0 h [a1] ∧ Fld Z h a1 "java/lang/String" "value" "[B" (.ref t) ∧ Fld Z h a1 "java/lang/String" "coder" "B" (.int (0 : Int32))) := by
  refine Con.enter (plainFor_of_name pn2) ?_
  intro p e s m below meth c s₁ X0 hx hZ hby hml hret hlk hown hnm e0
  have N0 := Fr.nil n0
  refine Go.cast (g' := (mkF m 0 #[.val (.ref a1), .val (.ref t), .val (.int (0 : Int32))] [])) (by first | rfl | (simp [entryFrame, mkF, argsToLocals, Value.category]; done)) ?_
  refine Go.st (T' := s₁) (g' := (mkF m 1 #[.val (.ref a1), .val (.ref t), .val (.int (0 : Int32))] [(.ref a1)])) (fun _ zk => XS.aloadN X0.here hx rfl (hb hby d12_0) rfl rfl zk) ?_
  obtain ⟨T1, X1, e1, st1⟩ := initO X0 hx hZ hown (w64 hw) (w65 hw) (w66 hw) e0 (g := (mkF m 1 #[.val (.ref a1), .val (.ref t), .val (.int (0 : Int32))] [(.ref a1)])) rfl (by rw [hml]; rfl) rfl (hb hby d12_1) (by decide) (W := 0) (by show 2 * 0 + _ ≤ _; exact Nat.le_of_eq rfl) (by decide)
  refine Go.st (T' := T1) (g' := (mkF m 4 #[.val (.ref a1), .val (.ref t), .val (.int (0 : Int32))] [])) (fun _ zk => st1 _ zk) ?_
  refine Go.st (T' := T1) (g' := (mkF m 5 #[.val (.ref a1), .val (.ref t), .val (.int (0 : Int32))] [(.ref a1)])) (fun _ zk => XS.aloadN X1.here hx rfl (hb hby d12_4) rfl rfl zk) ?_
  refine Go.st (T' := T1) (g' := (mkF m 6 #[.val (.ref a1), .val (.ref t), .val (.int (0 : Int32))] [(.ref t), (.ref a1)])) (fun _ zk => XS.aloadN X1.here hx rfl (hb hby d12_5) rfl rfl zk) ?_
  obtain ⟨T2, h2, X2, e2, W2, st2⟩ := putF X1 hx hZ hown (host := "") (Or.inl (w13 hw)) Via.refl e1 F0_0 E0 (Or.inr ⟨(w4 hw), rfl, hnm⟩) (w2 hw) (ty := (.array .byte)) (by decide) rfl rfl (g := (mkF m 6 #[.val (.ref a1), .val (.ref t), .val (.int (0 : Int32))] [(.ref t), (.ref a1)])) rfl rfl (hb hby d12_6)
  have F2 := F0_0.same W2
  have N2 := Fr.snoc X2 N0 g0
  refine Go.st (T' := T2) (g' := (mkF m 9 #[.val (.ref a1), .val (.ref t), .val (.int (0 : Int32))] [])) (fun _ zk => st2 _ zk) ?_
  refine Go.st (T' := T2) (g' := (mkF m 10 #[.val (.ref a1), .val (.ref t), .val (.int (0 : Int32))] [(.ref a1)])) (fun _ zk => XS.aloadN X2.here hx rfl (hb hby d12_9) rfl rfl zk) ?_
  refine Go.st (T' := T2) (g' := (mkF m 11 #[.val (.ref a1), .val (.ref t), .val (.int (0 : Int32))] [(.int (0 : Int32)), (.ref a1)])) (fun _ zk => XS.iloadN X2.here hx rfl (hb hby d12_10) rfl zk) ?_
  have f4 := (F0_1.other W2 (Or.inr (slot_ne (Or.inr (w5 hw)) (Or.inr (w4 hw)) (by decide) (t := .byte) (t' := (.array .byte)) (by decide) (by decide))))
  have f5 := (E0.wr W2)
  obtain ⟨T3, h3, X3, e3, W3, st3⟩ := putF X2 hx hZ hown (host := "") (Or.inl (w20 hw)) Via.refl e2 f4 f5 (Or.inr ⟨(w5 hw), rfl, hnm⟩) (w2 hw) (v := (.int (0 : Int32))) (ty := .byte) (by decide) rfl rfl (g := (mkF m 11 #[.val (.ref a1), .val (.ref t), .val (.int (0 : Int32))] [(.int (0 : Int32)), (.ref a1)])) rfl rfl (hb hby d12_11)
  have F3 := f4.same W3
  have N3 := Fr.snoc X3 N2 g0
  refine Go.st (T' := T3) (g' := (mkF m 14 #[.val (.ref a1), .val (.ref t), .val (.int (0 : Int32))] [])) (fun _ zk => st3 _ zk) ?_
  have f6 := (F2.other W3 (Or.inr (slot_ne (Or.inr (w4 hw)) (Or.inr (w5 hw)) (by decide) (t := (.array .byte)) (t' := .byte) (by decide) (by decide))))
  refine Go.retV X3 hx hlk hret (hb hby d12_14) (by decide) (by decide) e3 ?_
  exact ⟨rfl, N3, (((Keep.refl h0 [a1]).wr W2 (Or.inl (List.mem_of_getElem? (i := 0) rfl))).wr W3 (Or.inl (List.mem_of_getElem? (i := 0) rfl))), f6, F3⟩
theorem d28_0 : decode jdk_43_method_47_code 0 = .ok (.iload_n 2, 1) := by decide +kernel
theorem d28_1 : decode jdk_43_method_47_code 1 = .ok (.ifCond .ne 6, 3) := by decide +kernel
theorem d28_7 : decode jdk_43_method_47_code 7 = .ok (.new 1, 3) := by decide +kernel
theorem w128 {a0 : Array Value} {Z : State} (hw : ∀ d ∈ tables_1, d.before a0 Z = true) : ((Jvm.Cond.classLink "java/lang/StringLatin1" (1 : Nat) "java/lang/String")).before a0 Z = true := hw _ (List.mem_of_getElem? (i := 128) rfl)
theorem d28_10 : decode jdk_43_method_47_code 10 = .ok (.dup, 1) := by decide +kernel
theorem d28_11 : decode jdk_43_method_47_code 11 = .ok (.aload_n 0, 1) := by decide +kernel
theorem d28_12 : decode jdk_43_method_47_code 12 = .ok (.iload_n 1, 1) := by decide +kernel
theorem d28_13 : decode jdk_43_method_47_code 13 = .ok (.iload_n 1, 1) := by decide +kernel
theorem d28_14 : decode jdk_43_method_47_code 14 = .ok (.iload_n 2, 1) := by decide +kernel
theorem d28_15 : decode jdk_43_method_47_code 15 = .ok (.iadd, 1) := by decide +kernel
theorem w132 {a0 : Array Value} {Z : State} (hw : ∀ d ∈ tables_1, d.before a0 Z = true) : ((Jvm.Cond.code ({ cls := "java/util/Arrays", name := "copyOfRange", desc := "([BII)[B" } : Jvm.MethodName) jdk_65_method_132_code (3 : Nat) (Option.some (Jvm.ClassFile.FieldType.array Jvm.ClassFile.FieldType.byte)))).before a0 Z = true := hw _ (List.mem_of_getElem? (i := 132) rfl)
theorem d28_16 : decode jdk_43_method_47_code 16 = .ok (.invokestatic 232, 3) := by decide +kernel
theorem w129 {a0 : Array Value} {Z : State} (hw : ∀ d ∈ tables_1, d.before a0 Z = true) : ((Jvm.Cond.methodLink "java/lang/StringLatin1" (232 : Nat) ({ cls := "java/util/Arrays", name := "copyOfRange", desc := "([BII)[B" } : Jvm.MethodName))).before a0 Z = true := hw _ (List.mem_of_getElem? (i := 129) rfl)
theorem w130 {a0 : Array Value} {Z : State} (hw : ∀ d ∈ tables_1, d.before a0 Z = true) : ((Jvm.Cond.static ({ cls := "java/util/Arrays", name := "copyOfRange", desc := "([BII)[B" } : Jvm.MethodName))).before a0 Z = true := hw _ (List.mem_of_getElem? (i := 130) rfl)
theorem d28_19 : decode jdk_43_method_47_code 19 = .ok (.iconst 0, 1) := by decide +kernel
theorem w63 {a0 : Array Value} {Z : State} (hw : ∀ d ∈ tables_1, d.before a0 Z = true) : ((Jvm.Cond.code ({ cls := "java/lang/String", name := "<init>", desc := "([BB)V" } : Jvm.MethodName) jdk_42_method_151_code (3 : Nat) (Option.none : Option Jvm.ClassFile.FieldType))).before a0 Z = true := hw _ (List.mem_of_getElem? (i := 63) rfl)
theorem pd17 : parseMethodDescriptor "([BB)V" = some ⟨[(.array .byte), .byte], none⟩ := by decide +kernel
theorem d28_20 : decode jdk_43_method_47_code 20 = .ok (.invokespecial 112, 3) := by decide +kernel
theorem w147 {a0 : Array Value} {Z : State} (hw : ∀ d ∈ tables_1, d.before a0 Z = true) : ((Jvm.Cond.methodLink "java/lang/StringLatin1" (112 : Nat) ({ cls := "java/lang/String", name := "<init>", desc := "([BB)V" } : Jvm.MethodName))).before a0 Z = true := hw _ (List.mem_of_getElem? (i := 147) rfl)
theorem w61 {a0 : Array Value} {Z : State} (hw : ∀ d ∈ tables_1, d.before a0 Z = true) : ((Jvm.Cond.instanceMethod ({ cls := "java/lang/String", name := "<init>", desc := "([BB)V" } : Jvm.MethodName))).before a0 Z = true := hw _ (List.mem_of_getElem? (i := 61) rfl)
theorem d28_23 : decode jdk_43_method_47_code 23 = .ok (.areturn, 1) := by decide +kernel
def rr_newStrL : Room := { frames := 3, cells := 2, slots := 11, locals := 50 }
set_option maxRecDepth 65536 in
set_option maxHeartbeats 40000000 in
theorem rm_newStrL (l : Launch) (Z : State) (a0 : Array Value) (hw : ∀ d ∈ tables_1, d.before a0 Z = true) (ws : List Jvm.Cond) (t : Addr) (k : ClassId) (bs : List Int32) (fr to : Nat) (h0 : Heap) (n0 : Nat) (Z0 : n0 ≤ h0.size) (V1 : Arv Z h0 t k .byte (Int32.ofNat bs.length) (bs.map Value.int) (.int (0 : Int32))) (lb : bs.length < 2 ^ 31) (hft : fr ≤ to) (htl : to ≤ bs.length) (hcap : to - fr ≤ 7) (hne : fr = 0 → to ≠ bs.length) (hpos : fr < to) :
    Con l Z (⟨"java/lang/StringLatin1", "newString", "([BII)Ljava/lang/String;"⟩ : MethodName) jdk_43_method_47_code 3 (some (.object "java/lang/String")) ws rr_newStrL #[(.ref t), (.int (Int32.ofNat fr)), (.int (Int32.ofNat (to - fr)))] h0 (fun v h L => ∃ a : Addr, v = some (.ref a) ∧ Fr n0 L ∧ Ext h0 h ∧ h0.size ≤ a ∧ StrB Z h a 0 ((bs.drop fr).take (to - fr))) := by
  refine Con.enter (plainFor_of_name pn0) ?_
  intro p e s m below meth c s₁ X0 hx hZ hby hml hret hlk hown hnm e0
  have N0 := Fr.nil n0
  refine Go.cast (g' := (mkF m 0 #[.val (.ref t), .val (.int (Int32.ofNat fr)), .val (.int (Int32.ofNat (to - fr)))] [])) (by first | rfl | (simp [entryFrame, mkF, argsToLocals, Value.category]; done)) ?_
  refine Go.st (T' := s₁) (g' := (mkF m 1 #[.val (.ref t), .val (.int (Int32.ofNat fr)), .val (.int (Int32.ofNat (to - fr)))] [(.int (Int32.ofNat (to - fr)))])) (fun _ zk => XS.iloadN X0.here hx rfl (hb hby d28_0) rfl zk) ?_
  refine Go.st (T' := s₁) (g' := (mkF m 7 #[.val (.ref t), .val (.int (Int32.ofNat fr)), .val (.int (Int32.ofNat (to - fr)))] [])) (fun _ zk => XS.ifYes X0.here hx rfl (pc0 := 1) (pc' := 7) rfl (hb hby d28_1) rfl ((if0 _ _).trans (feq (fun q => absurd (own_ofinj (n := 0) (by omega) (by decide) q) (by omega) : ¬ ((Int32.ofNat (to - fr)) = (0 : Int32)))).2) (by decide) (by decide) zk) ?_
  obtain ⟨T1, h1, X1, e1, E1, A1, D1, -, st1⟩ := newO X0 hx hZ hown (w128 hw) (w2 hw) (w1 hw) e0 (g := (mkF m 7 #[.val (.ref t), .val (.int (Int32.ofNat fr)), .val (.int (Int32.ofNat (to - fr)))] [])) rfl (hb hby d28_7) (by decide) (by decide)
  obtain ⟨b1, g1⟩ : ∃ z, z = h0.size := ⟨_, rfl⟩
  rw [← g1] at A1 D1 st1
  have F1_value : Fld Z h1 b1 "java/lang/String" "value" "[B" .null := D1 (Or.inr (w4 hw)) (ty := (.array .byte)) (by decide)
  have F1_coder : Fld Z h1 b1 "java/lang/String" "coder" "B" (.int (0 : Int32)) := D1 (Or.inr (w5 hw)) (ty := .byte) (by decide)
  refine Go.st (T' := T1) (g' := (mkF m 10 #[.val (.ref t), .val (.int (Int32.ofNat fr)), .val (.int (Int32.ofNat (to - fr)))] [(.ref b1)])) (fun _ zk => st1 _ zk) ?_
  refine Go.st (T' := T1) (g' := (mkF m 11 #[.val (.ref t), .val (.int (Int32.ofNat fr)), .val (.int (Int32.ofNat (to - fr)))] [(.ref b1), (.ref b1)])) (fun _ zk => XS.dup X1.here hx rfl (hb hby d28_10) rfl rfl zk) ?_
  refine Go.st (T' := T1) (g' := (mkF m 12 #[.val (.ref t), .val (.int (Int32.ofNat fr)), .val (.int (Int32.ofNat (to - fr)))] [(.ref t), (.ref b1), (.ref b1)])) (fun _ zk => XS.aloadN X1.here hx rfl (hb hby d28_11) rfl rfl zk) ?_
  refine Go.st (T' := T1) (g' := (mkF m 13 #[.val (.ref t), .val (.int (Int32.ofNat fr)), .val (.int (Int32.ofNat (to - fr)))] [(.int (Int32.ofNat fr)), (.ref t), (.ref b1), (.ref b1)])) (fun _ zk => XS.iloadN X1.here hx rfl (hb hby d28_12) rfl zk) ?_
  refine Go.st (T' := T1) (g' := (mkF m 14 #[.val (.ref t), .val (.int (Int32.ofNat fr)), .val (.int (Int32.ofNat (to - fr)))] [(.int (Int32.ofNat fr)), (.int (Int32.ofNat fr)), (.ref t), (.ref b1), (.ref b1)])) (fun _ zk => XS.iloadN X1.here hx rfl (hb hby d28_13) rfl zk) ?_
  refine Go.st (T' := T1) (g' := (mkF m 15 #[.val (.ref t), .val (.int (Int32.ofNat fr)), .val (.int (Int32.ofNat (to - fr)))] [(.int (Int32.ofNat (to - fr))), (.int (Int32.ofNat fr)), (.int (Int32.ofNat fr)), (.ref t), (.ref b1), (.ref b1)])) (fun _ zk => XS.iloadN X1.here hx rfl (hb hby d28_14) rfl zk) ?_
  refine Go.st (T' := T1) (g' := (mkF m 16 #[.val (.ref t), .val (.int (Int32.ofNat fr)), .val (.int (Int32.ofNat (to - fr)))] [(.int ((Int32.ofNat fr) + (Int32.ofNat (to - fr)))), (.int (Int32.ofNat fr)), (.ref t), (.ref b1), (.ref b1)])) (fun _ zk => XS.iadd X1.here hx rfl (hb hby d28_15) rfl zk) ?_
  rw [show Int32.ofNat fr + Int32.ofNat (to - fr) = Int32.ofNat to from by rw [← Int32.ofNat_add, Nat.add_sub_cancel' hft]]
  have xt2 : Ext h0 h1 := E1
  have f3 := V1.ext xt2
  refine Go.callSt (y := (⟨"java/util/Arrays", "copyOfRange", "([BII)[B"⟩ : MethodName)) X1 hx hZ hown e1 (w129 hw) (w130 hw) (w131 hw) (w132 hw) (by decide) (argsL := [(.ref t), (.int (Int32.ofNat fr)), (.int (Int32.ofNat to))]) (rest := [(.ref b1), (.ref b1)]) (W := 2) (rm_cor l Z a0 hw [] t k bs fr to h1 n0 (Nat.le_trans Z0 E1.1) f3 lb hft htl hcap hne) rfl (lenOf pd16 rfl) rfl (by rw [hml]; rfl) rfl (by show 2 * 0 + _ ≤ _; exact Nat.le_of_eq rfl) (by decide) (by decide) (by decide) (by decide) (hb hby d28_16) ?_
  intro v4 T4 h4 L4 X4 e4 q4
  obtain ⟨d, kd, hv4, Nf4, E4, ge4, V4⟩ := q4
  subst hv4
  have N4 := Fr.app N0 Nf4
  show Go p.tables e below _ T4 (mkF m 19 #[.val (.ref t), .val (.int (Int32.ofNat fr)), .val (.int (Int32.ofNat (to - fr)))] [(.ref d), (.ref b1), (.ref b1)])
  refine Go.st (T' := T4) (g' := (mkF m 20 #[.val (.ref t), .val (.int (Int32.ofNat fr)), .val (.int (Int32.ofNat (to - fr)))] [(.int (0 : Int32)), (.ref d), (.ref b1), (.ref b1)])) (fun _ zk => XS.iconst X4.here hx rfl (hb hby d28_19) zk) ?_
  have xt5 : Ext h1 h4 := E4
  have f6 := A1.ext xt5
  have f7 := F1_value.ext xt5
  have f8 := F1_coder.ext xt5
  refine Go.callSp (y := (⟨"java/lang/String", "<init>", "([BB)V"⟩ : MethodName)) (a := b1) X4 hx hZ hown e4 rfl (w147 hw) (w61 hw) (w1 hw) (w63 hw) (by decide) (argsL := [(.ref d), (.int (0 : Int32))]) (rest := [(.ref b1)]) (W := 1) (rm_strBB l Z a0 hw [] b1 d h4 n0 (Nat.le_trans Z0 (Nat.le_trans E1.1 E4.1)) f6 (Nat.le_trans Z0 (Nat.le_trans (Nat.le_refl _) (Nat.le_of_eq g1.symm))) f7 f8) rfl (lenOf pd17 rfl) rfl (by rw [hml]; rfl) rfl (by show 2 * 0 + _ ≤ _; exact Nat.le_of_eq rfl) (by decide) (by decide) (by decide) (by decide) (hb hby d28_20) ?_
  intro v9 T9 h9 L9 X9 e9 q9
  obtain ⟨hv9, Nf9, K9, G9_0, G9_1⟩ := q9
  subst hv9
  have N9 := Fr.app N4 Nf9
  show Go p.tables e below _ T9 (mkF m 23 #[.val (.ref t), .val (.int (Int32.ofNat fr)), .val (.int (Int32.ofNat (to - fr)))] [(.ref b1)])
  have xt10 : Ext h0 h9 := ((xt2.tr E4).thenK K9 (allS (P := fun x => h0.size ≤ x) (Nat.le_of_eq g1.symm) all0))
  have f11 := (f6.keep K9)
  have f12 := (V4.keep K9 (ninS (Ne.symm (ne_lt A1.lt (Nat.le_refl _) ge4)) nin0))
  refine Go.retA X9 hx hlk hret rfl rfl (hb hby d28_23) (by decide) (by decide) e9 ?_
  refine ⟨_, rfl, N9, xt10, (Nat.le_trans (Nat.le_refl _) (Nat.le_of_eq g1.symm)), d, kd, f11, G9_1, G9_0, ?_⟩
  rw [show ((bs.drop fr).take (to - fr)).length = to - fr by rw [List.length_take, List.length_drop]; omega]
  exact f12
theorem d16_0 : decode jdk_43_method_39_code 0 = .ok (.aload_n 0, 1) := by decide +kernel
theorem w81 {a0 : Array Value} {Z : State} (hw : ∀ d ∈ tables_1, d.before a0 Z = true) : ((Jvm.Cond.code ({ cls := "java/lang/StringLatin1", name := "indexOfNonWhitespace", desc := "([B)I" } : Jvm.MethodName) jdk_43_method_37_code (4 : Nat) (Option.some Jvm.ClassFile.FieldType.int))).before a0 Z = true := hw _ (List.mem_of_getElem? (i := 81) rfl)
theorem pd18 : parseMethodDescriptor "([B)I" = some ⟨[(.array .byte)], some .int⟩ := by decide +kernel
theorem d16_1 : decode jdk_43_method_39_code 1 = .ok (.invokestatic 214, 3) := by decide +kernel
theorem w79 {a0 : Array Value} {Z : State} (hw : ∀ d ∈ tables_1, d.before a0 Z = true) : ((Jvm.Cond.methodLink "java/lang/StringLatin1" (214 : Nat) ({ cls := "java/lang/StringLatin1", name := "indexOfNonWhitespace", desc := "([B)I" } : Jvm.MethodName))).before a0 Z = true := hw _ (List.mem_of_getElem? (i := 79) rfl)
theorem w80 {a0 : Array Value} {Z : State} (hw : ∀ d ∈ tables_1, d.before a0 Z = true) : ((Jvm.Cond.static ({ cls := "java/lang/StringLatin1", name := "indexOfNonWhitespace", desc := "([B)I" } : Jvm.MethodName))).before a0 Z = true := hw _ (List.mem_of_getElem? (i := 80) rfl)
theorem d16_4 : decode jdk_43_method_39_code 4 = .ok (.istore_n 1, 1) := by decide +kernel
theorem d16_5 : decode jdk_43_method_39_code 5 = .ok (.iload_n 1, 1) := by decide +kernel
theorem d16_6 : decode jdk_43_method_39_code 6 = .ok (.aload_n 0, 1) := by decide +kernel
theorem d16_7 : decode jdk_43_method_39_code 7 = .ok (.arraylength, 1) := by decide +kernel
theorem d16_8 : decode jdk_43_method_39_code 8 = .ok (.if_icmp .ne 6, 3) := by decide +kernel
theorem d16_14 : decode jdk_43_method_39_code 14 = .ok (.aload_n 0, 1) := by decide +kernel
theorem w100 {a0 : Array Value} {Z : State} (hw : ∀ d ∈ tables_1, d.before a0 Z = true) : ((Jvm.Cond.code ({ cls := "java/lang/StringLatin1", name := "lastIndexOfNonWhitespace", desc := "([B)I" } : Jvm.MethodName) jdk_43_method_38_code (4 : Nat) (Option.some Jvm.ClassFile.FieldType.int))).before a0 Z = true := hw _ (List.mem_of_getElem? (i := 100) rfl)
theorem d16_15 : decode jdk_43_method_39_code 15 = .ok (.invokestatic 217, 3) := by decide +kernel
theorem w98 {a0 : Array Value} {Z : State} (hw : ∀ d ∈ tables_1, d.before a0 Z = true) : ((Jvm.Cond.methodLink "java/lang/StringLatin1" (217 : Nat) ({ cls := "java/lang/StringLatin1", name := "lastIndexOfNonWhitespace", desc := "([B)I" } : Jvm.MethodName))).before a0 Z = true := hw _ (List.mem_of_getElem? (i := 98) rfl)
theorem w99 {a0 : Array Value} {Z : State} (hw : ∀ d ∈ tables_1, d.before a0 Z = true) : ((Jvm.Cond.static ({ cls := "java/lang/StringLatin1", name := "lastIndexOfNonWhitespace", desc := "([B)I" } : Jvm.MethodName))).before a0 Z = true := hw _ (List.mem_of_getElem? (i := 99) rfl)
theorem d16_18 : decode jdk_43_method_39_code 18 = .ok (.istore_n 2, 1) := by decide +kernel
theorem d16_19 : decode jdk_43_method_39_code 19 = .ok (.iload_n 1, 1) := by decide +kernel
theorem d16_20 : decode jdk_43_method_39_code 20 = .ok (.ifCond .gt 9, 3) := by decide +kernel
theorem d16_29 : decode jdk_43_method_39_code 29 = .ok (.iconst 1, 1) := by decide +kernel
theorem d16_30 : decode jdk_43_method_39_code 30 = .ok (.goto 4, 3) := by decide +kernel
theorem d16_34 : decode jdk_43_method_39_code 34 = .ok (.istore_n 3, 1) := by decide +kernel
theorem d16_35 : decode jdk_43_method_39_code 35 = .ok (.iload_n 3, 1) := by decide +kernel
theorem d16_36 : decode jdk_43_method_39_code 36 = .ok (.ifCond .eq 14, 3) := by decide +kernel
theorem d16_39 : decode jdk_43_method_39_code 39 = .ok (.aload_n 0, 1) := by decide +kernel
theorem d16_40 : decode jdk_43_method_39_code 40 = .ok (.iload_n 1, 1) := by decide +kernel
theorem d16_41 : decode jdk_43_method_39_code 41 = .ok (.iload_n 2, 1) := by decide +kernel
theorem d16_42 : decode jdk_43_method_39_code 42 = .ok (.iload_n 1, 1) := by decide +kernel
theorem d16_43 : decode jdk_43_method_39_code 43 = .ok (.isub, 1) := by decide +kernel
theorem w127 {a0 : Array Value} {Z : State} (hw : ∀ d ∈ tables_1, d.before a0 Z = true) : ((Jvm.Cond.code ({ cls := "java/lang/StringLatin1", name := "newString", desc := "([BII)Ljava/lang/String;" } : Jvm.MethodName) jdk_43_method_47_code (3 : Nat) (Option.some (Jvm.ClassFile.FieldType.object "java/lang/String")))).before a0 Z = true := hw _ (List.mem_of_getElem? (i := 127) rfl)
theorem pd19 : parseMethodDescriptor "([BII)Ljava/lang/String;" = some ⟨[(.array .byte), .int, .int], some (.object "java/lang/String")⟩ := by decide +kernel
theorem d16_44 : decode jdk_43_method_39_code 44 = .ok (.invokestatic 210, 3) := by decide +kernel
theorem w125 {a0 : Array Value} {Z : State} (hw : ∀ d ∈ tables_1, d.before a0 Z = true) : ((Jvm.Cond.methodLink "java/lang/StringLatin1" (210 : Nat) ({ cls := "java/lang/StringLatin1", name := "newString", desc := "([BII)Ljava/lang/String;" } : Jvm.MethodName))).before a0 Z = true := hw _ (List.mem_of_getElem? (i := 125) rfl)
theorem w126 {a0 : Array Value} {Z : State} (hw : ∀ d ∈ tables_1, d.before a0 Z = true) : ((Jvm.Cond.static ({ cls := "java/lang/StringLatin1", name := "newString", desc := "([BII)Ljava/lang/String;" } : Jvm.MethodName))).before a0 Z = true := hw _ (List.mem_of_getElem? (i := 126) rfl)
theorem d16_47 : decode jdk_43_method_39_code 47 = .ok (.goto 4, 3) := by decide +kernel
theorem d16_51 : decode jdk_43_method_39_code 51 = .ok (.areturn, 1) := by decide +kernel
theorem d16_23 : decode jdk_43_method_39_code 23 = .ok (.iload_n 2, 1) := by decide +kernel
theorem d16_24 : decode jdk_43_method_39_code 24 = .ok (.aload_n 0, 1) := by decide +kernel
theorem d16_25 : decode jdk_43_method_39_code 25 = .ok (.arraylength, 1) := by decide +kernel
theorem d16_26 : decode jdk_43_method_39_code 26 = .ok (.if_icmp .ge 7, 3) := by decide +kernel
theorem d16_33 : decode jdk_43_method_39_code 33 = .ok (.iconst 0, 1) := by decide +kernel
theorem d16_50 : decode jdk_43_method_39_code 50 = .ok (.aconst_null, 1) := by decide +kernel
def rr_stripL : Room := { frames := 4, cells := 2, slots := 11, locals := 64 }
set_option maxRecDepth 65536 in
set_option maxHeartbeats 40000000 in
theorem rm_stripL (l : Launch) (Z : State) (a0 : Array Value) (hw : ∀ d ∈ tables_1, d.before a0 Z = true) (ws : List Jvm.Cond) (t : Addr) (k : ClassId) (bs : List Int32) (p0 m0 : Nat) (ci dA : Addr) (kA : ClassId) (h0 : Heap) (n0 : Nat) (Z0 : n0 ≤ h0.size) (O0 : Old Z n0 h0) (V1 : Arv Z h0 t k .byte (Int32.ofNat bs.length) (bs.map Value.int) (.int (0 : Int32))) (lb : bs.length < 2 ^ 31) (hcap : bs.length ≤ 7) (hpm : p0 < m0) (hml0 : m0 ≤ bs.length) (ws1 : ∀ i, i < p0 → WS (((bs.getD i 0) &&& (255 : Int32)).toUInt32.toUInt16.toUInt32.toInt32)) (nw1 : ¬ WS (((bs.getD p0 0) &&& (255 : Int32)).toUInt32.toUInt16.toUInt32.toInt32)) (ws2 : ∀ i, m0 ≤ i → i < bs.length → WS (((bs.getD i 0) &&& (255 : Int32)).toUInt32.toUInt16.toUInt32.toInt32)) (nw2 : ¬ WS (((bs.getD (m0 - 1) 0) &&& (255 : Int32)).toUInt32.toUInt16.toUInt32.toInt32)) (SI : Sta Z Z.heap "java/lang/CharacterDataLatin1" "instance" "Ljava/lang/CharacterDataLatin1;" (.ref ci)) (EI : Exa Z Z.heap ci "java/lang/CharacterDataLatin1") (SA : Sta Z Z.heap "java/lang/CharacterDataLatin1" "A" "[I" (.ref dA)) (FA : Arv Z Z.heap dA kA .int (256 : Int32) (tabA.map Value.int) (.int (0 : Int32))) :
    Con l Z (⟨"java/lang/StringLatin1", "strip", "([B)Ljava/lang/String;"⟩ : MethodName) jdk_43_method_39_code 4 (some (.object "java/lang/String")) ws rr_stripL #[(.ref t)] h0 (fun v h L => ∃ w : Value, v = some w ∧ Fr n0 L ∧ Ext h0 h ∧ ((p0 = 0 ∧ m0 = bs.length ∧ w = .null ∧ h = h0) ∨ ∃ a : Addr, w = .ref a ∧ StrB Z h a 0 ((bs.drop p0).take (m0 - p0)))) := by
  refine Con.enter (plainFor_of_name pn0) ?_
  intro p e s m below meth c s₁ X0 hx hZ hby hml hret hlk hown hnm e0
  have N0 := Fr.nil n0
  refine Go.cast (g' := (mkF m 0 #[.val (.ref t), .unset, .unset, .unset] [])) (by first | rfl | (simp [entryFrame, mkF, argsToLocals, Value.category]; done)) ?_
  refine Go.st (T' := s₁) (g' := (mkF m 1 #[.val (.ref t), .unset, .unset, .unset] [(.ref t)])) (fun _ zk => XS.aloadN X0.here hx rfl (hb hby d16_0) rfl rfl zk) ?_
  refine Go.callSt (y := (⟨"java/lang/StringLatin1", "indexOfNonWhitespace", "([B)I"⟩ : MethodName)) X0 hx hZ hown e0 (w79 hw) (w80 hw) (w40 hw) (w81 hw) (by decide) (argsL := [(.ref t)]) (rest := []) (W := 0) (rm_inw l Z a0 hw [] t k bs ci dA kA h0 n0 Z0 O0 V1 lb SI EI SA FA) rfl (lenOf pd18 rfl) rfl (by rw [hml]; rfl) rfl (by show 2 * 0 + _ ≤ _; exact Nat.le_of_eq rfl) (by decide) (by decide) (by decide) (by decide) (hb hby d16_1) ?_
  intro v1 T1 h1 L1 X1 e1 q1
  obtain ⟨j, hv1, j1, j2, j3, Nf1, hh1⟩ := q1
  subst hv1
  have E1 : T1.heap = h0 := e1.trans hh1
  have N1 := Fr.app N0 Nf1
  have jp : j = p0 := by
    rcases Nat.lt_trichotomy j p0 with q | q | q
    · exact absurd (ws1 j q) (j3 (by omega))
    · exact q
    · exact absurd (j2 p0 q) nw1
  subst jp
  show Go p.tables e below _ T1 (mkF m 4 #[.val (.ref t), .unset, .unset, .unset] [(.int (Int32.ofNat j))])
  refine Go.st (T' := T1) (g' := (mkF m 5 #[.val (.ref t), .val (.int (Int32.ofNat j)), .unset, .unset] [])) (fun _ zk => XS.istoreN X1.here hx rfl (hb hby d16_4) rfl (l' := #[.val (.ref t), .val (.int (Int32.ofNat j)), .unset, .unset]) rfl zk) ?_
  refine Go.st (T' := T1) (g' := (mkF m 6 #[.val (.ref t), .val (.int (Int32.ofNat j)), .unset, .unset] [(.int (Int32.ofNat j))])) (fun _ zk => XS.iloadN X1.here hx rfl (hb hby d16_5) rfl zk) ?_
  refine Go.st (T' := T1) (g' := (mkF m 7 #[.val (.ref t), .val (.int (Int32.ofNat j)), .unset, .unset] [(.ref t), (.int (Int32.ofNat j))])) (fun _ zk => XS.aloadN X1.here hx rfl (hb hby d16_6) rfl rfl zk) ?_
  refine Go.st (T' := T1) (g' := (mkF m 8 #[.val (.ref t), .val (.int (Int32.ofNat j)), .unset, .unset] [(.int (Int32.ofNat bs.length)), (.int (Int32.ofNat j))])) (fun _ zk => lenV X1 hx hZ E1 V1 (g := (mkF m 7 #[.val (.ref t), .val (.int (Int32.ofNat j)), .unset, .unset] [(.ref t), (.int (Int32.ofNat j))])) rfl (rest := [(.int (Int32.ofNat j))]) rfl (hb hby d16_7) zk) ?_
  refine Go.st (T' := T1) (g' := (mkF m 14 #[.val (.ref t), .val (.int (Int32.ofNat j)), .unset, .unset] [])) (fun _ zk => XS.icmpYes X1.here hx rfl (pc0 := 8) (pc' := 14) rfl (hb hby d16_8) rfl (feq (fun q => absurd (own_ofinj (by omega) lb q) (by omega) : ¬ ((Int32.ofNat j) = (Int32.ofNat bs.length)))).2 (by decide) (by decide) zk) ?_
  refine Go.st (T' := T1) (g' := (mkF m 15 #[.val (.ref t), .val (.int (Int32.ofNat j)), .unset, .unset] [(.ref t)])) (fun _ zk => XS.aloadN X1.here hx rfl (hb hby d16_14) rfl rfl zk) ?_
  refine Go.callSt (y := (⟨"java/lang/StringLatin1", "lastIndexOfNonWhitespace", "([B)I"⟩ : MethodName)) X1 hx hZ hown E1 (w98 hw) (w99 hw) (w40 hw) (w100 hw) (by decide) (argsL := [(.ref t)]) (rest := []) (W := 0) (rm_lnw l Z a0 hw [] t k bs ci dA kA h0 n0 Z0 O0 V1 lb SI EI SA FA) rfl (lenOf pd18 rfl) rfl (by rw [hml]; rfl) rfl (by show 2 * 0 + _ ≤ _; exact Nat.le_of_eq rfl) (by decide) (by decide) (by decide) (by decide) (hb hby d16_15) ?_
  intro v2 T2 h2 L2 X2 e2 q2
  obtain ⟨j', hv2, k1, k2, k3, Nf2, hh2⟩ := q2
  subst hv2
  have E2 : T2.heap = h0 := e2.trans hh2
  have N2 := Fr.app N1 Nf2
  have jm : j' = m0 := by
    rcases Nat.lt_trichotomy j' m0 with q | q | q
    · exact absurd (k2 (m0 - 1) (by omega) (by omega)) nw2
    · exact q
    · exact absurd (ws2 (j' - 1) (by omega) (by omega)) (k3 (by omega))
  subst jm
  show Go p.tables e below _ T2 (mkF m 18 #[.val (.ref t), .val (.int (Int32.ofNat j)), .unset, .unset] [(.int (Int32.ofNat j'))])
  refine Go.st (T' := T2) (g' := (mkF m 19 #[.val (.ref t), .val (.int (Int32.ofNat j)), .val (.int (Int32.ofNat j')), .unset] [])) (fun _ zk => XS.istoreN X2.here hx rfl (hb hby d16_18) rfl (l' := #[.val (.ref t), .val (.int (Int32.ofNat j)), .val (.int (Int32.ofNat j')), .unset]) rfl zk) ?_
  refine Go.st (T' := T2) (g' := (mkF m 20 #[.val (.ref t), .val (.int (Int32.ofNat j)), .val (.int (Int32.ofNat j')), .unset] [(.int (Int32.ofNat j))])) (fun _ zk => XS.iloadN X2.here hx rfl (hb hby d16_19) rfl zk) ?_
  by_cases hc20 : (0 : Int32) < (Int32.ofNat j)
  · refine Go.st (T' := T2) (g' := (mkF m 29 #[.val (.ref t), .val (.int (Int32.ofNat j)), .val (.int (Int32.ofNat j')), .unset] [])) (fun _ zk => XS.ifYes X2.here hx rfl (pc0 := 20) (pc' := 29) rfl (hb hby d16_20) rfl ((if0 _ _).trans (tlt hc20).2.2.1) (by decide) (by decide) zk) ?_
    refine Go.st (T' := T2) (g' := (mkF m 30 #[.val (.ref t), .val (.int (Int32.ofNat j)), .val (.int (Int32.ofNat j')), .unset] [(.int (1 : Int32))])) (fun _ zk => XS.iconst X2.here hx rfl (hb hby d16_29) zk) ?_
    refine Go.st (T' := T2) (g' := (mkF m 34 #[.val (.ref t), .val (.int (Int32.ofNat j)), .val (.int (Int32.ofNat j')), .unset] [(.int (1 : Int32))])) (fun _ zk => XS.goto X2.here hx rfl (pc0 := 30) (pc' := 34) rfl (hb hby d16_30) (by decide) (by decide) zk) ?_
    refine Go.st (T' := T2) (g' := (mkF m 35 #[.val (.ref t), .val (.int (Int32.ofNat j)), .val (.int (Int32.ofNat j')), .val (.int (1 : Int32))] [])) (fun _ zk => XS.istoreN X2.here hx rfl (hb hby d16_34) rfl (l' := #[.val (.ref t), .val (.int (Int32.ofNat j)), .val (.int (Int32.ofNat j')), .val (.int (1 : Int32))]) rfl zk) ?_
    refine Go.st (T' := T2) (g' := (mkF m 36 #[.val (.ref t), .val (.int (Int32.ofNat j)), .val (.int (Int32.ofNat j')), .val (.int (1 : Int32))] [(.int (1 : Int32))])) (fun _ zk => XS.iloadN X2.here hx rfl (hb hby d16_35) rfl zk) ?_
    refine Go.st (T' := T2) (g' := (mkF m 39 #[.val (.ref t), .val (.int (Int32.ofNat j)), .val (.int (Int32.ofNat j')), .val (.int (1 : Int32))] [])) (fun _ zk => XS.ifNo X2.here hx rfl (hb hby d16_36) rfl ((if0 _ _).trans (feq ((by decide) : ¬ ((1 : Int32) = (0 : Int32)))).1) zk) ?_
    refine Go.st (T' := T2) (g' := (mkF m 40 #[.val (.ref t), .val (.int (Int32.ofNat j)), .val (.int (Int32.ofNat j')), .val (.int (1 : Int32))] [(.ref t)])) (fun _ zk => XS.aloadN X2.here hx rfl (hb hby d16_39) rfl rfl zk) ?_
    refine Go.st (T' := T2) (g' := (mkF m 41 #[.val (.ref t), .val (.int (Int32.ofNat j)), .val (.int (Int32.ofNat j')), .val (.int (1 : Int32))] [(.int (Int32.ofNat j)), (.ref t)])) (fun _ zk => XS.iloadN X2.here hx rfl (hb hby d16_40) rfl zk) ?_
    refine Go.st (T' := T2) (g' := (mkF m 42 #[.val (.ref t), .val (.int (Int32.ofNat j)), .val (.int (Int32.ofNat j')), .val (.int (1 : Int32))] [(.int (Int32.ofNat j')), (.int (Int32.ofNat j)), (.ref t)])) (fun _ zk => XS.iloadN X2.here hx rfl (hb hby d16_41) rfl zk) ?_
    refine Go.st (T' := T2) (g' := (mkF m 43 #[.val (.ref t), .val (.int (Int32.ofNat j)), .val (.int (Int32.ofNat j')), .val (.int (1 : Int32))] [(.int (Int32.ofNat j)), (.int (Int32.ofNat j')), (.int (Int32.ofNat j)), (.ref t)])) (fun _ zk => XS.iloadN X2.here hx rfl (hb hby d16_42) rfl zk) ?_
    refine Go.st (T' := T2) (g' := (mkF m 44 #[.val (.ref t), .val (.int (Int32.ofNat j)), .val (.int (Int32.ofNat j')), .val (.int (1 : Int32))] [(.int ((Int32.ofNat j') - (Int32.ofNat j))), (.int (Int32.ofNat j)), (.ref t)])) (fun _ zk => XS.isub X2.here hx rfl (hb hby d16_43) rfl zk) ?_
    rw [own_subn (Nat.le_of_lt hpm) (by omega)]
    refine Go.callSt (y := (⟨"java/lang/StringLatin1", "newString", "([BII)Ljava/lang/String;"⟩ : MethodName)) X2 hx hZ hown E2 (w125 hw) (w126 hw) (w40 hw) (w127 hw) (by decide) (argsL := [(.ref t), (.int (Int32.ofNat j)), (.int (Int32.ofNat (j' - j)))]) (rest := []) (W := 0) (rm_newStrL l Z a0 hw [] t k bs j j' h0 n0 Z0 V1 lb (Nat.le_of_lt hpm) hml0 (by omega) (fun q => absurd hc20 (by rw [q]; decide)) hpm) rfl (lenOf pd19 rfl) rfl (by rw [hml]; rfl) rfl (by show 2 * 0 + _ ≤ _; exact Nat.le_of_eq rfl) (by decide) (by decide) (by decide) (by decide) (hb hby d16_44) ?_
    intro v3 T3 h3 L3 X3 e3 q3
    obtain ⟨a, hv3, Nf3, E3, ge3, SN⟩ := q3
    subst hv3
    have N3 := Fr.app N2 Nf3
    show Go p.tables e below _ T3 (mkF m 47 #[.val (.ref t), .val (.int (Int32.ofNat j)), .val (.int (Int32.ofNat j')), .val (.int (1 : Int32))] [(.ref a)])
    refine Go.st (T' := T3) (g' := (mkF m 51 #[.val (.ref t), .val (.int (Int32.ofNat j)), .val (.int (Int32.ofNat j')), .val (.int (1 : Int32))] [(.ref a)])) (fun _ zk => XS.goto X3.here hx rfl (pc0 := 47) (pc' := 51) rfl (hb hby d16_47) (by decide) (by decide) zk) ?_
    have xt4 : Ext h0 h3 := E3
    refine Go.retA X3 hx hlk hret rfl rfl (hb hby d16_51) (by decide) (by decide) e3 ?_
    exact ⟨_, rfl, N3, xt4, Or.inr ⟨_, rfl, SN⟩⟩
  · refine Go.st (T' := T2) (g' := (mkF m 23 #[.val (.ref t), .val (.int (Int32.ofNat j)), .val (.int (Int32.ofNat j')), .unset] [])) (fun _ zk => XS.ifNo X2.here hx rfl (hb hby d16_20) rfl ((if0 _ _).trans (flt hc20).2.2.1) zk) ?_
    refine Go.st (T' := T2) (g' := (mkF m 24 #[.val (.ref t), .val (.int (Int32.ofNat j)), .val (.int (Int32.ofNat j')), .unset] [(.int (Int32.ofNat j'))])) (fun _ zk => XS.iloadN X2.here hx rfl (hb hby d16_23) rfl zk) ?_
    refine Go.st (T' := T2) (g' := (mkF m 25 #[.val (.ref t), .val (.int (Int32.ofNat j)), .val (.int (Int32.ofNat j')), .unset] [(.ref t), (.int (Int32.ofNat j'))])) (fun _ zk => XS.aloadN X2.here hx rfl (hb hby d16_24) rfl rfl zk) ?_
    refine Go.st (T' := T2) (g' := (mkF m 26 #[.val (.ref t), .val (.int (Int32.ofNat j)), .val (.int (Int32.ofNat j')), .unset] [(.int (Int32.ofNat bs.length)), (.int (Int32.ofNat j'))])) (fun _ zk => lenV X2 hx hZ E2 V1 (g := (mkF m 25 #[.val (.ref t), .val (.int (Int32.ofNat j)), .val (.int (Int32.ofNat j')), .unset] [(.ref t), (.int (Int32.ofNat j'))])) rfl (rest := [(.int (Int32.ofNat j'))]) rfl (hb hby d16_25) zk) ?_
    by_cases hc26 : (Int32.ofNat j') < (Int32.ofNat bs.length)
    · refine Go.st (T' := T2) (g' := (mkF m 29 #[.val (.ref t), .val (.int (Int32.ofNat j)), .val (.int (Int32.ofNat j')), .unset] [])) (fun _ zk => XS.icmpNo X2.here hx rfl (hb hby d16_26) rfl (tlt hc26).2.1 zk) ?_
      refine Go.st (T' := T2) (g' := (mkF m 30 #[.val (.ref t), .val (.int (Int32.ofNat j)), .val (.int (Int32.ofNat j')), .unset] [(.int (1 : Int32))])) (fun _ zk => XS.iconst X2.here hx rfl (hb hby d16_29) zk) ?_
      refine Go.st (T' := T2) (g' := (mkF m 34 #[.val (.ref t), .val (.int (Int32.ofNat j)), .val (.int (Int32.ofNat j')), .unset] [(.int (1 : Int32))])) (fun _ zk => XS.goto X2.here hx rfl (pc0 := 30) (pc' := 34) rfl (hb hby d16_30) (by decide) (by decide) zk) ?_
      refine Go.st (T' := T2) (g' := (mkF m 35 #[.val (.ref t), .val (.int (Int32.ofNat j)), .val (.int (Int32.ofNat j')), .val (.int (1 : Int32))] [])) (fun _ zk => XS.istoreN X2.here hx rfl (hb hby d16_34) rfl (l' := #[.val (.ref t), .val (.int (Int32.ofNat j)), .val (.int (Int32.ofNat j')), .val (.int (1 : Int32))]) rfl zk) ?_
      refine Go.st (T' := T2) (g' := (mkF m 36 #[.val (.ref t), .val (.int (Int32.ofNat j)), .val (.int (Int32.ofNat j')), .val (.int (1 : Int32))] [(.int (1 : Int32))])) (fun _ zk => XS.iloadN X2.here hx rfl (hb hby d16_35) rfl zk) ?_
      refine Go.st (T' := T2) (g' := (mkF m 39 #[.val (.ref t), .val (.int (Int32.ofNat j)), .val (.int (Int32.ofNat j')), .val (.int (1 : Int32))] [])) (fun _ zk => XS.ifNo X2.here hx rfl (hb hby d16_36) rfl ((if0 _ _).trans (feq ((by decide) : ¬ ((1 : Int32) = (0 : Int32)))).1) zk) ?_
      refine Go.st (T' := T2) (g' := (mkF m 40 #[.val (.ref t), .val (.int (Int32.ofNat j)), .val (.int (Int32.ofNat j')), .val (.int (1 : Int32))] [(.ref t)])) (fun _ zk => XS.aloadN X2.here hx rfl (hb hby d16_39) rfl rfl zk) ?_
      refine Go.st (T' := T2) (g' := (mkF m 41 #[.val (.ref t), .val (.int (Int32.ofNat j)), .val (.int (Int32.ofNat j')), .val (.int (1 : Int32))] [(.int (Int32.ofNat j)), (.ref t)])) (fun _ zk => XS.iloadN X2.here hx rfl (hb hby d16_40) rfl zk) ?_
      refine Go.st (T' := T2) (g' := (mkF m 42 #[.val (.ref t), .val (.int (Int32.ofNat j)), .val (.int (Int32.ofNat j')), .val (.int (1 : Int32))] [(.int (Int32.ofNat j')), (.int (Int32.ofNat j)), (.ref t)])) (fun _ zk => XS.iloadN X2.here hx rfl (hb hby d16_41) rfl zk) ?_
      refine Go.st (T' := T2) (g' := (mkF m 43 #[.val (.ref t), .val (.int (Int32.ofNat j)), .val (.int (Int32.ofNat j')), .val (.int (1 : Int32))] [(.int (Int32.ofNat j)), (.int (Int32.ofNat j')), (.int (Int32.ofNat j)), (.ref t)])) (fun _ zk => XS.iloadN X2.here hx rfl (hb hby d16_42) rfl zk) ?_
      refine Go.st (T' := T2) (g' := (mkF m 44 #[.val (.ref t), .val (.int (Int32.ofNat j)), .val (.int (Int32.ofNat j')), .val (.int (1 : Int32))] [(.int ((Int32.ofNat j') - (Int32.ofNat j))), (.int (Int32.ofNat j)), (.ref t)])) (fun _ zk => XS.isub X2.here hx rfl (hb hby d16_43) rfl zk) ?_
      rw [own_subn (Nat.le_of_lt hpm) (by omega)]
      refine Go.callSt (y := (⟨"java/lang/StringLatin1", "newString", "([BII)Ljava/lang/String;"⟩ : MethodName)) X2 hx hZ hown E2 (w125 hw) (w126 hw) (w40 hw) (w127 hw) (by decide) (argsL := [(.ref t), (.int (Int32.ofNat j)), (.int (Int32.ofNat (j' - j)))]) (rest := []) (W := 0) (rm_newStrL l Z a0 hw [] t k bs j j' h0 n0 Z0 V1 lb (Nat.le_of_lt hpm) hml0 (by omega) (fun _ q => absurd hc26 (by rw [q]; exact own_ofnl (Nat.lt_irrefl _) lb lb)) hpm) rfl (lenOf pd19 rfl) rfl (by rw [hml]; rfl) rfl (by show 2 * 0 + _ ≤ _; exact Nat.le_of_eq rfl) (by decide) (by decide) (by decide) (by decide) (hb hby d16_44) ?_
      intro v5 T5 h5 L5 X5 e5 q5
      obtain ⟨a, hv5, Nf5, E5, ge5, SN⟩ := q5
      subst hv5
      have N5 := Fr.app N2 Nf5
      show Go p.tables e below _ T5 (mkF m 47 #[.val (.ref t), .val (.int (Int32.ofNat j)), .val (.int (Int32.ofNat j')), .val (.int (1 : Int32))] [(.ref a)])
      refine Go.st (T' := T5) (g' := (mkF m 51 #[.val (.ref t), .val (.int (Int32.ofNat j)), .val (.int (Int32.ofNat j')), .val (.int (1 : Int32))] [(.ref a)])) (fun _ zk => XS.goto X5.here hx rfl (pc0 := 47) (pc' := 51) rfl (hb hby d16_47) (by decide) (by decide) zk) ?_
      have xt6 : Ext h0 h5 := E5
      refine Go.retA X5 hx hlk hret rfl rfl (hb hby d16_51) (by decide) (by decide) e5 ?_
      exact ⟨_, rfl, N5, xt6, Or.inr ⟨_, rfl, SN⟩⟩
    · refine Go.st (T' := T2) (g' := (mkF m 33 #[.val (.ref t), .val (.int (Int32.ofNat j)), .val (.int (Int32.ofNat j')), .unset] [])) (fun _ zk => XS.icmpYes X2.here hx rfl (pc0 := 26) (pc' := 33) rfl (hb hby d16_26) rfl (flt hc26).2.1 (by decide) (by decide) zk) ?_
      refine Go.st (T' := T2) (g' := (mkF m 34 #[.val (.ref t), .val (.int (Int32.ofNat j)), .val (.int (Int32.ofNat j')), .unset] [(.int (0 : Int32))])) (fun _ zk => XS.iconst X2.here hx rfl (hb hby d16_33) zk) ?_
      refine Go.st (T' := T2) (g' := (mkF m 35 #[.val (.ref t), .val (.int (Int32.ofNat j)), .val (.int (Int32.ofNat j')), .val (.int (0 : Int32))] [])) (fun _ zk => XS.istoreN X2.here hx rfl (hb hby d16_34) rfl (l' := #[.val (.ref t), .val (.int (Int32.ofNat j)), .val (.int (Int32.ofNat j')), .val (.int (0 : Int32))]) rfl zk) ?_
      refine Go.st (T' := T2) (g' := (mkF m 36 #[.val (.ref t), .val (.int (Int32.ofNat j)), .val (.int (Int32.ofNat j')), .val (.int (0 : Int32))] [(.int (0 : Int32))])) (fun _ zk => XS.iloadN X2.here hx rfl (hb hby d16_35) rfl zk) ?_
      refine Go.st (T' := T2) (g' := (mkF m 50 #[.val (.ref t), .val (.int (Int32.ofNat j)), .val (.int (Int32.ofNat j')), .val (.int (0 : Int32))] [])) (fun _ zk => XS.ifYes X2.here hx rfl (pc0 := 36) (pc' := 50) rfl (hb hby d16_36) rfl ((if0 _ _).trans (teq (rfl : (0 : Int32) = (0 : Int32))).1) (by decide) (by decide) zk) ?_
      refine Go.st (T' := T2) (g' := (mkF m 51 #[.val (.ref t), .val (.int (Int32.ofNat j)), .val (.int (Int32.ofNat j')), .val (.int (0 : Int32))] [.null])) (fun _ zk => XS.aconstNull X2.here hx rfl (hb hby d16_50) zk) ?_
      refine Go.retA X2 hx hlk hret rfl rfl (hb hby d16_51) (by decide) (by decide) E2 ?_
      exact ⟨_, rfl, N2, (Ext.refl h0), Or.inl ⟨Nat.eq_zero_of_not_pos fun q => hc20 (own_oflt (i := 0) q (by omega)), Nat.le_antisymm hml0 (Nat.le_of_not_lt fun q => hc26 (own_oflt q lb)), rfl, rfl⟩⟩
theorem d5_0 : decode jdk_42_method_154_code 0 = .ok (.getstatic 38, 3) := by decide +kernel
theorem d5_3 : decode jdk_42_method_154_code 3 = .ok (.ifCond .eq 14, 3) := by decide +kernel
theorem d5_6 : decode jdk_42_method_154_code 6 = .ok (.aload_n 0, 1) := by decide +kernel
theorem d5_7 : decode jdk_42_method_154_code 7 = .ok (.getfield 15, 3) := by decide +kernel
theorem d5_10 : decode jdk_42_method_154_code 10 = .ok (.ifCond .ne 7, 3) := by decide +kernel
theorem d5_13 : decode jdk_42_method_154_code 13 = .ok (.iconst 1, 1) := by decide +kernel
theorem d5_14 : decode jdk_42_method_154_code 14 = .ok (.goto 4, 3) := by decide +kernel
theorem d5_18 : decode jdk_42_method_154_code 18 = .ok (.ireturn, 1) := by decide +kernel
def rr_isLatin1G : Room := { frames := 0, cells := 0, slots := 0, locals := 0 }
set_option maxRecDepth 65536 in
set_option maxHeartbeats 40000000 in
theorem rm_isLatin1G (l : Launch) (Z : State) (a0 : Array Value) (hw : ∀ d ∈ tables_1, d.before a0 Z = true) (ws : List Jvm.Cond) (a1 : Addr) (zc : Int32) (h0 : Heap) (n0 : Nat) (Z0 : n0 ≤ h0.size) (O0 : Old Z n0 h0) (F0 : Fld Z h0 a1 "java/lang/String" "coder" "B" (.int (0 : Int32))) (CS : Sta Z Z.heap "java/lang/String" "COMPACT_STRINGS" "Z" (.int zc)) (hz : ¬ zc = 0) :
    Con l Z (⟨"java/lang/String", "isLatin1", "()Z"⟩ : MethodName) jdk_42_method_154_code 1 (some .boolean) ws rr_isLatin1G #[(.ref a1)] h0 (fun v h L => v = some (.int 1) ∧ Fr n0 L ∧ h = h0) := by
  refine Con.enter (plainFor_of_name pn2) ?_
  intro p e s m below meth c s₁ X0 hx hZ hby hml hret hlk hown hnm e0
  have N0 := Fr.nil n0
  refine Go.cast (g' := (mkF m 0 #[.val (.ref a1)] [])) (by first | rfl | (simp [entryFrame, mkF, argsToLocals, Value.category]; done)) ?_
  obtain ⟨T1, X1, e1, st1⟩ := getS2 X0 hx hZ hown (host := "") (Or.inl (w19 hw)) Via.refl e0 (CS.ext O0.2) (g := (mkF m 0 #[.val (.ref a1)] [])) rfl (hb hby d5_0)
  refine Go.st (T' := T1) (g' := (mkF m 3 #[.val (.ref a1)] [(.int zc)])) (fun _ zk => st1 _ zk) ?_
  refine Go.st (T' := T1) (g' := (mkF m 6 #[.val (.ref a1)] [])) (fun _ zk => XS.ifNo X1.here hx rfl (hb hby d5_3) rfl ((if0 _ _).trans (feq (hz : ¬ (zc = (0 : Int32)))).1) zk) ?_
  refine Go.st (T' := T1) (g' := (mkF m 7 #[.val (.ref a1)] [(.ref a1)])) (fun _ zk => XS.aloadN X1.here hx rfl (hb hby d5_6) rfl rfl zk) ?_
  obtain ⟨T2, X2, e2, st2⟩ := getF X1 hx hZ hown (host := "") (Or.inl (w20 hw)) Via.refl e1 F0 (g := (mkF m 7 #[.val (.ref a1)] [(.ref a1)])) rfl rfl (hb hby d5_7)
  refine Go.st (T' := T2) (g' := (mkF m 10 #[.val (.ref a1)] [(.int (0 : Int32))])) (fun _ zk => st2 _ zk) ?_
  refine Go.st (T' := T2) (g' := (mkF m 13 #[.val (.ref a1)] [])) (fun _ zk => XS.ifNo X2.here hx rfl (hb hby d5_10) rfl ((if0 _ _).trans (teq (rfl : (0 : Int32) = (0 : Int32))).2) zk) ?_
  refine Go.st (T' := T2) (g' := (mkF m 14 #[.val (.ref a1)] [(.int (1 : Int32))])) (fun _ zk => XS.iconst X2.here hx rfl (hb hby d5_13) zk) ?_
  refine Go.st (T' := T2) (g' := (mkF m 18 #[.val (.ref a1)] [(.int (1 : Int32))])) (fun _ zk => XS.goto X2.here hx rfl (pc0 := 14) (pc' := 18) rfl (hb hby d5_14) (by decide) (by decide) zk) ?_
  refine Go.retN X2 hx hlk hret rfl (by simp) (hb hby d5_18) (by decide) (by decide) e2 ?_
  exact ⟨rfl, N0, rfl⟩
theorem d15_0 : decode jdk_42_method_114_code 0 = .ok (.aload_n 0, 1) := by decide +kernel
theorem w37 {a0 : Array Value} {Z : State} (hw : ∀ d ∈ tables_1, d.before a0 Z = true) : ((Jvm.Cond.code ({ cls := "java/lang/String", name := "isLatin1", desc := "()Z" } : Jvm.MethodName) jdk_42_method_154_code (1 : Nat) (Option.some Jvm.ClassFile.FieldType.boolean))).before a0 Z = true := hw _ (List.mem_of_getElem? (i := 37) rfl)
theorem pd20 : parseMethodDescriptor "()Z" = some ⟨[], some .boolean⟩ := by decide +kernel
theorem d15_1 : decode jdk_42_method_114_code 1 = .ok (.invokevirtual 492, 3) := by decide +kernel
theorem w36 {a0 : Array Value} {Z : State} (hw : ∀ d ∈ tables_1, d.before a0 Z = true) : ((Jvm.Cond.selects "java/lang/String" ({ cls := "java/lang/String", name := "isLatin1", desc := "()Z" } : Jvm.MethodName) ({ cls := "java/lang/String", name := "isLatin1", desc := "()Z" } : Jvm.MethodName))).before a0 Z = true := hw _ (List.mem_of_getElem? (i := 36) rfl)
theorem w35 {a0 : Array Value} {Z : State} (hw : ∀ d ∈ tables_1, d.before a0 Z = true) : ((Jvm.Cond.instanceMethod ({ cls := "java/lang/String", name := "isLatin1", desc := "()Z" } : Jvm.MethodName))).before a0 Z = true := hw _ (List.mem_of_getElem? (i := 35) rfl)
theorem w33 {a0 : Array Value} {Z : State} (hw : ∀ d ∈ tables_1, d.before a0 Z = true) : ((Jvm.Cond.methodLink "java/lang/String" (492 : Nat) ({ cls := "java/lang/String", name := "isLatin1", desc := "()Z" } : Jvm.MethodName))).before a0 Z = true := hw _ (List.mem_of_getElem? (i := 33) rfl)
theorem w34 {a0 : Array Value} {Z : State} (hw : ∀ d ∈ tables_1, d.before a0 Z = true) : ((Jvm.Cond.declares ({ cls := "java/lang/String", name := "isLatin1", desc := "()Z" } : Jvm.MethodName))).before a0 Z = true := hw _ (List.mem_of_getElem? (i := 34) rfl)
theorem d15_4 : decode jdk_42_method_114_code 4 = .ok (.ifCond .eq 13, 3) := by decide +kernel
theorem d15_7 : decode jdk_42_method_114_code 7 = .ok (.aload_n 0, 1) := by decide +kernel
theorem d15_8 : decode jdk_42_method_114_code 8 = .ok (.getfield 9, 3) := by decide +kernel
theorem w78 {a0 : Array Value} {Z : State} (hw : ∀ d ∈ tables_1, d.before a0 Z = true) : ((Jvm.Cond.code ({ cls := "java/lang/StringLatin1", name := "strip", desc := "([B)Ljava/lang/String;" } : Jvm.MethodName) jdk_43_method_39_code (4 : Nat) (Option.some (Jvm.ClassFile.FieldType.object "java/lang/String")))).before a0 Z = true := hw _ (List.mem_of_getElem? (i := 78) rfl)
theorem pd21 : parseMethodDescriptor "([B)Ljava/lang/String;" = some ⟨[(.array .byte)], some (.object "java/lang/String")⟩ := by decide +kernel
theorem d15_11 : decode jdk_42_method_114_code 11 = .ok (.invokestatic 864, 3) := by decide +kernel
theorem w76 {a0 : Array Value} {Z : State} (hw : ∀ d ∈ tables_1, d.before a0 Z = true) : ((Jvm.Cond.methodLink "java/lang/String" (864 : Nat) ({ cls := "java/lang/StringLatin1", name := "strip", desc := "([B)Ljava/lang/String;" } : Jvm.MethodName))).before a0 Z = true := hw _ (List.mem_of_getElem? (i := 76) rfl)
theorem w77 {a0 : Array Value} {Z : State} (hw : ∀ d ∈ tables_1, d.before a0 Z = true) : ((Jvm.Cond.static ({ cls := "java/lang/StringLatin1", name := "strip", desc := "([B)Ljava/lang/String;" } : Jvm.MethodName))).before a0 Z = true := hw _ (List.mem_of_getElem? (i := 77) rfl)
theorem d15_14 : decode jdk_42_method_114_code 14 = .ok (.goto 10, 3) := by decide +kernel
theorem d15_24 : decode jdk_42_method_114_code 24 = .ok (.astore_n 1, 1) := by decide +kernel
theorem d15_25 : decode jdk_42_method_114_code 25 = .ok (.aload_n 1, 1) := by decide +kernel
theorem d15_26 : decode jdk_42_method_114_code 26 = .ok (.ifnonnull 7, 3) := by decide +kernel
theorem d15_29 : decode jdk_42_method_114_code 29 = .ok (.aload_n 0, 1) := by decide +kernel
theorem d15_30 : decode jdk_42_method_114_code 30 = .ok (.goto 4, 3) := by decide +kernel
theorem d15_34 : decode jdk_42_method_114_code 34 = .ok (.areturn, 1) := by decide +kernel
theorem d15_33 : decode jdk_42_method_114_code 33 = .ok (.aload_n 1, 1) := by decide +kernel
def rr_strip : Room := { frames := 5, cells := 2, slots := 11, locals := 79 }
set_option maxRecDepth 65536 in
set_option maxHeartbeats 40000000 in
theorem rm_strip (l : Launch) (Z : State) (a0 : Array Value) (hw : ∀ d ∈ tables_1, d.before a0 Z = true) (ws : List Jvm.Cond) (a1 : Addr) (bs : List Int32) (p0 m0 : Nat) (zc : Int32) (ci dA : Addr) (kA : ClassId) (h0 : Heap) (n0 : Nat) (Z0 : n0 ≤ h0.size) (O0 : Old Z n0 h0) (S1 : StrB Z h0 a1 0 bs) (lb : bs.length < 2 ^ 31) (hcap : bs.length ≤ 7) (hpm : p0 < m0) (hml0 : m0 ≤ bs.length) (ws1 : ∀ i, i < p0 → WS (((bs.getD i 0) &&& (255 : Int32)).toUInt32.toUInt16.toUInt32.toInt32)) (nw1 : ¬ WS (((bs.getD p0 0) &&& (255 : Int32)).toUInt32.toUInt16.toUInt32.toInt32)) (ws2 : ∀ i, m0 ≤ i → i < bs.length → WS (((bs.getD i 0) &&& (255 : Int32)).toUInt32.toUInt16.toUInt32.toInt32)) (nw2 : ¬ WS (((bs.getD (m0 - 1) 0) &&& (255 : Int32)).toUInt32.toUInt16.toUInt32.toInt32)) (CS : Sta Z Z.heap "java/lang/String" "COMPACT_STRINGS" "Z" (.int zc)) (hz : ¬ zc = 0) (SI : Sta Z Z.heap "java/lang/CharacterDataLatin1" "instance" "Ljava/lang/CharacterDataLatin1;" (.ref ci)) (EI : Exa Z Z.heap ci "java/lang/CharacterDataLatin1") (SA : Sta Z Z.heap "java/lang/CharacterDataLatin1" "A" "[I" (.ref dA)) (FA : Arv Z Z.heap dA kA .int (256 : Int32) (tabA.map Value.int) (.int (0 : Int32))) :
    Con l Z (⟨"java/lang/String", "strip", "()Ljava/lang/String;"⟩ : MethodName) jdk_42_method_114_code 2 (some (.object "java/lang/String")) ws rr_strip #[(.ref a1)] h0 (fun v h L => ∃ a : Addr, v = some (.ref a) ∧ Fr n0 L ∧ Ext h0 h ∧ StrB Z h a 0 ((bs.drop p0).take (m0 - p0))) := by
  refine Con.enter (plainFor_of_name pn2) ?_
  intro p e s m below meth c s₁ X0 hx hZ hby hml hret hlk hown hnm e0
  have N0 := Fr.nil n0
  refine Go.cast (g' := (mkF m 0 #[.val (.ref a1), .unset] [])) (by first | rfl | (simp [entryFrame, mkF, argsToLocals, Value.category]; done)) ?_
  have S0 := S1
  obtain ⟨t1, k1, E_a1, C_a1, F_a1, V_a1⟩ := S1
  refine Go.st (T' := s₁) (g' := (mkF m 1 #[.val (.ref a1), .unset] [(.ref a1)])) (fun _ zk => XS.aloadN X0.here hx rfl (hb hby d15_0) rfl rfl zk) ?_
  refine Go.callV (y := (⟨"java/lang/String", "isLatin1", "()Z"⟩ : MethodName)) (z := (⟨"java/lang/String", "isLatin1", "()Z"⟩ : MethodName)) (C := "java/lang/String") (a := a1) X0 hx hZ hown e0 (w33 hw) (w34 hw) (w36 hw) (w35 hw) (w1 hw) (w37 hw) (notFace_of_selects (args := #[]) (mvT hZ (w36 hw))) (by decide) E_a1 (argsL := []) (rest := []) (W := 0) (rm_isLatin1G l Z a0 hw [] a1 zc h0 n0 Z0 O0 C_a1 CS hz) rfl (lenOf pd20 rfl) rfl (by rw [hml]; rfl) rfl (by show 2 * 0 + _ ≤ _; exact Nat.le_of_eq rfl) (by decide) (by decide) (by decide) (by decide) (hb hby d15_1) ?_
  intro v1 T1 h1 L1 X1 e1 q1
  obtain ⟨hv1, Nf1, hh1⟩ := q1
  subst hv1
  have E1 : T1.heap = h0 := e1.trans hh1
  have N1 := Fr.app N0 Nf1
  show Go p.tables e below _ T1 (mkF m 4 #[.val (.ref a1), .unset] [(.int (1 : Int32))])
  refine Go.st (T' := T1) (g' := (mkF m 7 #[.val (.ref a1), .unset] [])) (fun _ zk => XS.ifNo X1.here hx rfl (hb hby d15_4) rfl ((if0 _ _).trans (feq ((by decide) : ¬ ((1 : Int32) = (0 : Int32)))).1) zk) ?_
  refine Go.st (T' := T1) (g' := (mkF m 8 #[.val (.ref a1), .unset] [(.ref a1)])) (fun _ zk => XS.aloadN X1.here hx rfl (hb hby d15_7) rfl rfl zk) ?_
  obtain ⟨T2, X2, e2, st2⟩ := getF X1 hx hZ hown (host := "") (Or.inl (w13 hw)) Via.refl E1 F_a1 (g := (mkF m 8 #[.val (.ref a1), .unset] [(.ref a1)])) rfl rfl (hb hby d15_8)
  refine Go.st (T' := T2) (g' := (mkF m 11 #[.val (.ref a1), .unset] [(.ref t1)])) (fun _ zk => st2 _ zk) ?_
  refine Go.callSt (y := (⟨"java/lang/StringLatin1", "strip", "([B)Ljava/lang/String;"⟩ : MethodName)) X2 hx hZ hown e2 (w76 hw) (w77 hw) (w40 hw) (w78 hw) (by decide) (argsL := [(.ref t1)]) (rest := []) (W := 0) (rm_stripL l Z a0 hw [] t1 k1 bs p0 m0 ci dA kA h0 n0 Z0 O0 V_a1 lb hcap hpm hml0 ws1 nw1 ws2 nw2 SI EI SA FA) rfl (lenOf pd21 rfl) rfl (by rw [hml]; rfl) rfl (by show 2 * 0 + _ ≤ _; exact Nat.le_of_eq rfl) (by decide) (by decide) (by decide) (by decide) (hb hby d15_11) ?_
  intro v3 T3 h3 L3 X3 e3 q3
  obtain ⟨wv, hv3, Nf3, E3, hcase⟩ := q3
  subst hv3
  have N3 := Fr.app N1 Nf3
  show Go p.tables e below _ T3 (mkF m 14 #[.val (.ref a1), .unset] [wv])
  rcases hcase with ⟨z1, z2, rfl, -⟩ | ⟨a, rfl, SN⟩
  · refine Go.st (T' := T3) (g' := (mkF m 24 #[.val (.ref a1), .unset] [.null])) (fun _ zk => XS.goto X3.here hx rfl (pc0 := 14) (pc' := 24) rfl (hb hby d15_14) (by decide) (by decide) zk) ?_
    refine Go.st (T' := T3) (g' := (mkF m 25 #[.val (.ref a1), .val .null] [])) (fun _ zk => XS.astoreN X3.here hx rfl (hb hby d15_24) rfl rfl (l' := #[.val (.ref a1), .val .null]) rfl zk) ?_
    refine Go.st (T' := T3) (g' := (mkF m 26 #[.val (.ref a1), .val .null] [.null])) (fun _ zk => XS.aloadN X3.here hx rfl (hb hby d15_25) rfl rfl zk) ?_
    refine Go.st (T' := T3) (g' := (mkF m 29 #[.val (.ref a1), .val .null] [])) (fun _ zk => XS.ifnonnullNo X3.here hx rfl (hb hby d15_26) rfl zk) ?_
    refine Go.st (T' := T3) (g' := (mkF m 30 #[.val (.ref a1), .val .null] [(.ref a1)])) (fun _ zk => XS.aloadN X3.here hx rfl (hb hby d15_29) rfl rfl zk) ?_
    refine Go.st (T' := T3) (g' := (mkF m 34 #[.val (.ref a1), .val .null] [(.ref a1)])) (fun _ zk => XS.goto X3.here hx rfl (pc0 := 30) (pc' := 34) rfl (hb hby d15_30) (by decide) (by decide) zk) ?_
    have xt4 : Ext h0 h3 := E3
    refine Go.retA X3 hx hlk hret rfl rfl (hb hby d15_34) (by decide) (by decide) e3 ?_
    refine ⟨_, rfl, N3, xt4, ?_⟩
    rw [z1, z2, List.drop_zero, Nat.sub_zero, List.take_length]
    exact S0.ext xt4
  · refine Go.st (T' := T3) (g' := (mkF m 24 #[.val (.ref a1), .unset] [(.ref a)])) (fun _ zk => XS.goto X3.here hx rfl (pc0 := 14) (pc' := 24) rfl (hb hby d15_14) (by decide) (by decide) zk) ?_
    refine Go.st (T' := T3) (g' := (mkF m 25 #[.val (.ref a1), .val (.ref a)] [])) (fun _ zk => XS.astoreN X3.here hx rfl (hb hby d15_24) rfl rfl (l' := #[.val (.ref a1), .val (.ref a)]) rfl zk) ?_
    refine Go.st (T' := T3) (g' := (mkF m 26 #[.val (.ref a1), .val (.ref a)] [(.ref a)])) (fun _ zk => XS.aloadN X3.here hx rfl (hb hby d15_25) rfl rfl zk) ?_
    refine Go.st (T' := T3) (g' := (mkF m 33 #[.val (.ref a1), .val (.ref a)] [])) (fun _ zk => XS.ifnonnullYes X3.here hx rfl (pc0 := 26) (pc' := 33) rfl (hb hby d15_26) rfl (by decide) (by decide) zk) ?_
    refine Go.st (T' := T3) (g' := (mkF m 34 #[.val (.ref a1), .val (.ref a)] [(.ref a)])) (fun _ zk => XS.aloadN X3.here hx rfl (hb hby d15_33) rfl rfl zk) ?_
    have xt5 : Ext h0 h3 := E3
    refine Go.retA X3 hx hlk hret rfl rfl (hb hby d15_34) (by decide) (by decide) e3 ?_
    exact ⟨_, rfl, N3, xt5, SN⟩
theorem d10_0 : decode jdk_43_method_3_code 0 = .ok (.iload_n 0, 1) := by decide +kernel
theorem d10_1 : decode jdk_43_method_3_code 1 = .ok (.sipush 255, 3) := by decide +kernel
theorem d10_4 : decode jdk_43_method_3_code 4 = .ok (.if_icmp .gt 7, 3) := by decide +kernel
theorem d10_7 : decode jdk_43_method_3_code 7 = .ok (.iconst 1, 1) := by decide +kernel
theorem d10_8 : decode jdk_43_method_3_code 8 = .ok (.goto 4, 3) := by decide +kernel
theorem d10_12 : decode jdk_43_method_3_code 12 = .ok (.ireturn, 1) := by decide +kernel
def rr_canEnc : Room := { frames := 0, cells := 0, slots := 0, locals := 0 }
set_option maxRecDepth 65536 in
set_option maxHeartbeats 40000000 in
theorem rm_canEnc (l : Launch) (Z : State) (a0 : Array Value) (hw : ∀ d ∈ tables_1, d.before a0 Z = true) (ws : List Jvm.Cond) (x : Int32) (h0 : Heap) (n0 : Nat) (Z0 : n0 ≤ h0.size) (hx0 : ¬ (255 : Int32) < x) :
    Con l Z (⟨"java/lang/StringLatin1", "canEncode", "(C)Z"⟩ : MethodName) jdk_43_method_3_code 1 (some .boolean) ws rr_canEnc #[(.int x)] h0 (fun v h L => v = some (.int 1) ∧ Fr n0 L ∧ h = h0) := by
  refine Con.enter (plainFor_of_name pn0) ?_
  intro p e s m below meth c s₁ X0 hx hZ hby hml hret hlk hown hnm e0
  have N0 := Fr.nil n0
  refine Go.cast (g' := (mkF m 0 #[.val (.int x)] [])) (by first | rfl | (simp [entryFrame, mkF, argsToLocals, Value.category]; done)) ?_
  refine Go.st (T' := s₁) (g' := (mkF m 1 #[.val (.int x)] [(.int x)])) (fun _ zk => XS.iloadN X0.here hx rfl (hb hby d10_0) rfl zk) ?_
  refine Go.st (T' := s₁) (g' := (mkF m 4 #[.val (.int x)] [(.int (255 : Int32)), (.int x)])) (fun _ zk => XS.sipush X0.here hx rfl (hb hby d10_1) zk) ?_
  refine Go.st (T' := s₁) (g' := (mkF m 7 #[.val (.int x)] [])) (fun _ zk => XS.icmpNo X0.here hx rfl (hb hby d10_4) rfl (flt (hx0 : ¬ ((255 : Int32) < x))).2.2.1 zk) ?_
  refine Go.st (T' := s₁) (g' := (mkF m 8 #[.val (.int x)] [(.int (1 : Int32))])) (fun _ zk => XS.iconst X0.here hx rfl (hb hby d10_7) zk) ?_
  refine Go.st (T' := s₁) (g' := (mkF m 12 #[.val (.int x)] [(.int (1 : Int32))])) (fun _ zk => XS.goto X0.here hx rfl (pc0 := 8) (pc' := 12) rfl (hb hby d10_8) (by decide) (by decide) zk) ?_
  refine Go.retN X0 hx hlk hret rfl (by simp) (hb hby d10_12) (by decide) (by decide) e0 ?_
  exact ⟨rfl, N0, rfl⟩
theorem d11_0 : decode jdk_43_method_46_code 0 = .ok (.iconst 1, 1) := by decide +kernel
theorem d11_1 : decode jdk_43_method_46_code 1 = .ok (.newarray .byte, 2) := by decide +kernel
theorem d11_3 : decode jdk_43_method_46_code 3 = .ok (.dup, 1) := by decide +kernel
theorem d11_4 : decode jdk_43_method_46_code 4 = .ok (.iconst 0, 1) := by decide +kernel
theorem d11_5 : decode jdk_43_method_46_code 5 = .ok (.iload_n 0, 1) := by decide +kernel
theorem d11_6 : decode jdk_43_method_46_code 6 = .ok (.i2b, 1) := by decide +kernel
theorem d11_7 : decode jdk_43_method_46_code 7 = .ok (.bastore, 1) := by decide +kernel
theorem d11_8 : decode jdk_43_method_46_code 8 = .ok (.areturn, 1) := by decide +kernel
def rr_toB1 : Room := { frames := 0, cells := 1, slots := 1, locals := 0 }
set_option maxRecDepth 65536 in
set_option maxHeartbeats 40000000 in
theorem rm_toB1 (l : Launch) (Z : State) (a0 : Array Value) (hw : ∀ d ∈ tables_1, d.before a0 Z = true) (ws : List Jvm.Cond) (x : Int32) (h0 : Heap) (n0 : Nat) (Z0 : n0 ≤ h0.size)  :
    Con l Z (⟨"java/lang/StringLatin1", "toBytes", "(C)[B"⟩ : MethodName) jdk_43_method_46_code 1 (some (.array .byte)) ws rr_toB1 #[(.int x)] h0 (fun v h L => ∃ (t : Addr) (k : ClassId), v = some (.ref t) ∧ Fr n0 L ∧ Ext h0 h ∧ h0.size ≤ t ∧ Arv Z h t k .byte (1 : Int32) [(.int (x.toInt8.toInt32))] (.int (0 : Int32))) := by
  refine Con.enter (plainFor_of_name pn0) ?_
  intro p e s m below meth c s₁ X0 hx hZ hby hml hret hlk hown hnm e0
  have N0 := Fr.nil n0
  refine Go.cast (g' := (mkF m 0 #[.val (.int x)] [])) (by first | rfl | (simp [entryFrame, mkF, argsToLocals, Value.category]; done)) ?_
  refine Go.st (T' := s₁) (g' := (mkF m 1 #[.val (.int x)] [(.int (1 : Int32))])) (fun _ zk => XS.iconst X0.here hx rfl (hb hby d11_0) zk) ?_
  obtain ⟨T1, h1, k1, X1, e1, E1, A1, st1⟩ := newP (aty := .byte) X0 hx hZ (w3 hw) e0 (g := (mkF m 1 #[.val (.int x)] [(.int (1 : Int32))])) rfl (hb hby d11_1) rfl (by decide) (cap := 1) (by decide) (by decide) (by decide) (by decide)
  obtain ⟨b1, g1⟩ : ∃ z, z = h0.size := ⟨_, rfl⟩
  rw [← g1] at A1 st1
  have V1 : Arv Z h1 b1 k1 .byte (1 : Int32) [(.int (0 : Int32))] (.int (0 : Int32)) := (Arv.new A1 (by decide)).pad (pad_rep [] (.int (0 : Int32)) 1)
  refine Go.st (T' := T1) (g' := (mkF m 3 #[.val (.int x)] [(.ref b1)])) (fun _ zk => st1 _ zk) ?_
  refine Go.st (T' := T1) (g' := (mkF m 4 #[.val (.int x)] [(.ref b1), (.ref b1)])) (fun _ zk => XS.dup X1.here hx rfl (hb hby d11_3) rfl rfl zk) ?_
  refine Go.st (T' := T1) (g' := (mkF m 5 #[.val (.int x)] [(.int (0 : Int32)), (.ref b1), (.ref b1)])) (fun _ zk => XS.iconst X1.here hx rfl (hb hby d11_4) zk) ?_
  refine Go.st (T' := T1) (g' := (mkF m 6 #[.val (.int x)] [(.int x), (.int (0 : Int32)), (.ref b1), (.ref b1)])) (fun _ zk => XS.iloadN X1.here hx rfl (hb hby d11_5) rfl zk) ?_
  refine Go.st (T' := T1) (g' := (mkF m 7 #[.val (.int x)] [(.int (x.toInt8.toInt32)), (.int (0 : Int32)), (.ref b1), (.ref b1)])) (fun _ zk => XS.i2b X1.here hx rfl (hb hby d11_6) rfl zk) ?_
  obtain ⟨T2, h2, X2, e2, W2, V2, st2⟩ := stBV X1 hx hZ e1 V1 (j := (0 : Int32)) (i := 0) (by decide) rfl (Nat.le_of_ble_eq_true rfl) (g := (mkF m 7 #[.val (.int x)] [(.int (x.toInt8.toInt32)), (.int (0 : Int32)), (.ref b1), (.ref b1)])) rfl rfl (hb hby d11_7)
  rw [nar_b] at V2
  have V2' : Arv Z h2 b1 k1 .byte (1 : Int32) [(.int (x.toInt8.toInt32))] (.int (0 : Int32)) := V2
  have N2 := Fr.snoc X2 N0 (Nat.le_trans Z0 (Nat.le_trans (Nat.le_refl _) (Nat.le_of_eq g1.symm)))
  refine Go.st (T' := T2) (g' := (mkF m 8 #[.val (.int x)] [(.ref b1)])) (fun _ zk => st2 _ zk) ?_
  have xt3 : Ext h0 h2 := (E1.thenW W2 (Nat.le_of_eq g1.symm))
  refine Go.retA X2 hx hlk hret rfl rfl (hb hby d11_8) (by decide) (by decide) e2 ?_
  exact ⟨_, _, rfl, N2, xt3, (Nat.le_trans (Nat.le_refl _) (Nat.le_of_eq g1.symm)), V2'⟩
theorem d9_0 : decode jdk_42_method_139_code 0 = .ok (.getstatic 38, 3) := by decide +kernel
theorem d9_3 : decode jdk_42_method_139_code 3 = .ok (.ifCond .eq 23, 3) := by decide +kernel
theorem d9_6 : decode jdk_42_method_139_code 6 = .ok (.iload_n 0, 1) := by decide +kernel
theorem w55 {a0 : Array Value} {Z : State} (hw : ∀ d ∈ tables_1, d.before a0 Z = true) : ((Jvm.Cond.code ({ cls := "java/lang/StringLatin1", name := "canEncode", desc := "(C)Z" } : Jvm.MethodName) jdk_43_method_3_code (1 : Nat) (Option.some Jvm.ClassFile.FieldType.boolean))).before a0 Z = true := hw _ (List.mem_of_getElem? (i := 55) rfl)
theorem pd22 : parseMethodDescriptor "(C)Z" = some ⟨[.char], some .boolean⟩ := by decide +kernel
theorem d9_7 : decode jdk_42_method_139_code 7 = .ok (.invokestatic 1015, 3) := by decide +kernel
theorem w53 {a0 : Array Value} {Z : State} (hw : ∀ d ∈ tables_1, d.before a0 Z = true) : ((Jvm.Cond.methodLink "java/lang/String" (1015 : Nat) ({ cls := "java/lang/StringLatin1", name := "canEncode", desc := "(C)Z" } : Jvm.MethodName))).before a0 Z = true := hw _ (List.mem_of_getElem? (i := 53) rfl)
theorem w54 {a0 : Array Value} {Z : State} (hw : ∀ d ∈ tables_1, d.before a0 Z = true) : ((Jvm.Cond.static ({ cls := "java/lang/StringLatin1", name := "canEncode", desc := "(C)Z" } : Jvm.MethodName))).before a0 Z = true := hw _ (List.mem_of_getElem? (i := 54) rfl)
theorem d9_10 : decode jdk_42_method_139_code 10 = .ok (.ifCond .eq 16, 3) := by decide +kernel
theorem d9_13 : decode jdk_42_method_139_code 13 = .ok (.new 10, 3) := by decide +kernel
theorem d9_16 : decode jdk_42_method_139_code 16 = .ok (.dup, 1) := by decide +kernel
theorem d9_17 : decode jdk_42_method_139_code 17 = .ok (.iload_n 0, 1) := by decide +kernel
theorem w59 {a0 : Array Value} {Z : State} (hw : ∀ d ∈ tables_1, d.before a0 Z = true) : ((Jvm.Cond.code ({ cls := "java/lang/StringLatin1", name := "toBytes", desc := "(C)[B" } : Jvm.MethodName) jdk_43_method_46_code (1 : Nat) (Option.some (Jvm.ClassFile.FieldType.array Jvm.ClassFile.FieldType.byte)))).before a0 Z = true := hw _ (List.mem_of_getElem? (i := 59) rfl)
theorem pd23 : parseMethodDescriptor "(C)[B" = some ⟨[.char], some (.array .byte)⟩ := by decide +kernel
theorem d9_18 : decode jdk_42_method_139_code 18 = .ok (.invokestatic 1018, 3) := by decide +kernel
theorem w57 {a0 : Array Value} {Z : State} (hw : ∀ d ∈ tables_1, d.before a0 Z = true) : ((Jvm.Cond.methodLink "java/lang/String" (1018 : Nat) ({ cls := "java/lang/StringLatin1", name := "toBytes", desc := "(C)[B" } : Jvm.MethodName))).before a0 Z = true := hw _ (List.mem_of_getElem? (i := 57) rfl)
theorem w58 {a0 : Array Value} {Z : State} (hw : ∀ d ∈ tables_1, d.before a0 Z = true) : ((Jvm.Cond.static ({ cls := "java/lang/StringLatin1", name := "toBytes", desc := "(C)[B" } : Jvm.MethodName))).before a0 Z = true := hw _ (List.mem_of_getElem? (i := 58) rfl)
theorem d9_21 : decode jdk_42_method_139_code 21 = .ok (.iconst 0, 1) := by decide +kernel
theorem d9_22 : decode jdk_42_method_139_code 22 = .ok (.invokespecial 209, 3) := by decide +kernel
theorem w60 {a0 : Array Value} {Z : State} (hw : ∀ d ∈ tables_1, d.before a0 Z = true) : ((Jvm.Cond.methodLink "java/lang/String" (209 : Nat) ({ cls := "java/lang/String", name := "<init>", desc := "([BB)V" } : Jvm.MethodName))).before a0 Z = true := hw _ (List.mem_of_getElem? (i := 60) rfl)
theorem d9_25 : decode jdk_42_method_139_code 25 = .ok (.areturn, 1) := by decide +kernel
def rr_valueOfC : Room := { frames := 2, cells := 2, slots := 5, locals := 27 }
set_option maxRecDepth 65536 in
set_option maxHeartbeats 40000000 in
theorem rm_valueOfC (l : Launch) (Z : State) (a0 : Array Value) (hw : ∀ d ∈ tables_1, d.before a0 Z = true) (ws : List Jvm.Cond) (x zc : Int32) (h0 : Heap) (n0 : Nat) (Z0 : n0 ≤ h0.size) (O0 : Old Z n0 h0) (hx0 : ¬ (255 : Int32) < x) (CS : Sta Z Z.heap "java/lang/String" "COMPACT_STRINGS" "Z" (.int zc)) (hz : ¬ zc = 0) :
    Con l Z (⟨"java/lang/String", "valueOf", "(C)Ljava/lang/String;"⟩ : MethodName) jdk_42_method_139_code 1 (some (.object "java/lang/String")) ws rr_valueOfC #[(.int x)] h0 (fun v h L => ∃ a : Addr, v = some (.ref a) ∧ Fr n0 L ∧ Ext h0 h ∧ h0.size ≤ a ∧ StrB Z h a 0 [(x.toInt8.toInt32)]) := by
  refine Con.enter (plainFor_of_name pn2) ?_
  intro p e s m below meth c s₁ X0 hx hZ hby hml hret hlk hown hnm e0
  have N0 := Fr.nil n0
  refine Go.cast (g' := (mkF m 0 #[.val (.int x)] [])) (by first | rfl | (simp [entryFrame, mkF, argsToLocals, Value.category]; done)) ?_
  obtain ⟨T1, X1, e1, st1⟩ := getS2 X0 hx hZ hown (host := "") (Or.inl (w19 hw)) Via.refl e0 (CS.ext O0.2) (g := (mkF m 0 #[.val (.int x)] [])) rfl (hb hby d9_0)
  refine Go.st (T' := T1) (g' := (mkF m 3 #[.val (.int x)] [(.int zc)])) (fun _ zk => st1 _ zk) ?_
  refine Go.st (T' := T1) (g' := (mkF m 6 #[.val (.int x)] [])) (fun _ zk => XS.ifNo X1.here hx rfl (hb hby d9_3) rfl ((if0 _ _).trans (feq (hz : ¬ (zc = (0 : Int32)))).1) zk) ?_
  refine Go.st (T' := T1) (g' := (mkF m 7 #[.val (.int x)] [(.int x)])) (fun _ zk => XS.iloadN X1.here hx rfl (hb hby d9_6) rfl zk) ?_
  refine Go.callSt (y := (⟨"java/lang/StringLatin1", "canEncode", "(C)Z"⟩ : MethodName)) X1 hx hZ hown e1 (w53 hw) (w54 hw) (w40 hw) (w55 hw) (by decide) (argsL := [(.int x)]) (rest := []) (W := 0) (rm_canEnc l Z a0 hw [] x h0 n0 Z0 hx0) rfl (lenOf pd22 rfl) rfl (by rw [hml]; rfl) rfl (by show 2 * 0 + _ ≤ _; exact Nat.le_of_eq rfl) (by decide) (by decide) (by decide) (by decide) (hb hby d9_7) ?_
  intro v2 T2 h2 L2 X2 e2 q2
  obtain ⟨hv2, Nf2, hh2⟩ := q2
  subst hv2
  have E2 : T2.heap = h0 := e2.trans hh2
  have N2 := Fr.app N0 Nf2
  show Go p.tables e below _ T2 (mkF m 10 #[.val (.int x)] [(.int (1 : Int32))])
  refine Go.st (T' := T2) (g' := (mkF m 13 #[.val (.int x)] [])) (fun _ zk => XS.ifNo X2.here hx rfl (hb hby d9_10) rfl ((if0 _ _).trans (feq ((by decide) : ¬ ((1 : Int32) = (0 : Int32)))).1) zk) ?_
  obtain ⟨T3, h3, X3, e3, E3, A3, D3, -, st3⟩ := newO X2 hx hZ hown (w56 hw) (w2 hw) (w1 hw) E2 (g := (mkF m 13 #[.val (.int x)] [])) rfl (hb hby d9_13) (by decide) (by decide)
  obtain ⟨b3, g3⟩ : ∃ z, z = h0.size := ⟨_, rfl⟩
  rw [← g3] at A3 D3 st3
  have F3_value : Fld Z h3 b3 "java/lang/String" "value" "[B" .null := D3 (Or.inr (w4 hw)) (ty := (.array .byte)) (by decide)
  have F3_coder : Fld Z h3 b3 "java/lang/String" "coder" "B" (.int (0 : Int32)) := D3 (Or.inr (w5 hw)) (ty := .byte) (by decide)
  refine Go.st (T' := T3) (g' := (mkF m 16 #[.val (.int x)] [(.ref b3)])) (fun _ zk => st3 _ zk) ?_
  refine Go.st (T' := T3) (g' := (mkF m 17 #[.val (.int x)] [(.ref b3), (.ref b3)])) (fun _ zk => XS.dup X3.here hx rfl (hb hby d9_16) rfl rfl zk) ?_
  refine Go.st (T' := T3) (g' := (mkF m 18 #[.val (.int x)] [(.int x), (.ref b3), (.ref b3)])) (fun _ zk => XS.iloadN X3.here hx rfl (hb hby d9_17) rfl zk) ?_
  refine Go.callSt (y := (⟨"java/lang/StringLatin1", "toBytes", "(C)[B"⟩ : MethodName)) X3 hx hZ hown e3 (w57 hw) (w58 hw) (w40 hw) (w59 hw) (by decide) (argsL := [(.int x)]) (rest := [(.ref b3), (.ref b3)]) (W := 2) (rm_toB1 l Z a0 hw [] x h3 n0 (Nat.le_trans Z0 E3.1) ) rfl (lenOf pd23 rfl) rfl (by rw [hml]; rfl) rfl (by show 2 * 0 + _ ≤ _; exact Nat.le_of_eq rfl) (by decide) (by decide) (by decide) (by decide) (hb hby d9_18) ?_
  intro v4 T4 h4 L4 X4 e4 q4
  obtain ⟨t, kt, hv4, Nf4, E4, ge4, V4⟩ := q4
  subst hv4
  have N4 := Fr.app N2 Nf4
  show Go p.tables e below _ T4 (mkF m 21 #[.val (.int x)] [(.ref t), (.ref b3), (.ref b3)])
  refine Go.st (T' := T4) (g' := (mkF m 22 #[.val (.int x)] [(.int (0 : Int32)), (.ref t), (.ref b3), (.ref b3)])) (fun _ zk => XS.iconst X4.here hx rfl (hb hby d9_21) zk) ?_
  have xt5 : Ext h3 h4 := E4
  have f6 := A3.ext xt5
  have f7 := F3_value.ext xt5
  have f8 := F3_coder.ext xt5
  refine Go.callSp (y := (⟨"java/lang/String", "<init>", "([BB)V"⟩ : MethodName)) (a := b3) X4 hx hZ hown e4 rfl (w60 hw) (w61 hw) (w1 hw) (w63 hw) (by decide) (argsL := [(.ref t), (.int (0 : Int32))]) (rest := [(.ref b3)]) (W := 1) (rm_strBB l Z a0 hw [] b3 t h4 n0 (Nat.le_trans Z0 (Nat.le_trans E3.1 E4.1)) f6 (Nat.le_trans Z0 (Nat.le_trans (Nat.le_refl _) (Nat.le_of_eq g3.symm))) f7 f8) rfl (lenOf pd17 rfl) rfl (by rw [hml]; rfl) rfl (by show 2 * 0 + _ ≤ _; exact Nat.le_of_eq rfl) (by decide) (by decide) (by decide) (by decide) (hb hby d9_22) ?_
  intro v9 T9 h9 L9 X9 e9 q9
  obtain ⟨hv9, Nf9, K9, G9_0, G9_1⟩ := q9
  subst hv9
  have N9 := Fr.app N4 Nf9
  show Go p.tables e below _ T9 (mkF m 25 #[.val (.int x)] [(.ref b3)])
  have xt10 : Ext h0 h9 := ((E3.tr E4).thenK K9 (allS (P := fun x => h0.size ≤ x) (Nat.le_of_eq g3.symm) all0))
  have f11 := (f6.keep K9)
  have f12 := (V4.keep K9 (ninS (Ne.symm (ne_lt A3.lt (Nat.le_refl _) ge4)) nin0))
  refine Go.retA X9 hx hlk hret rfl rfl (hb hby d9_25) (by decide) (by decide) e9 ?_
  exact ⟨_, rfl, N9, xt10, (Nat.le_trans (Nat.le_refl _) (Nat.le_of_eq g3.symm)), t, kt, f11, G9_1, G9_0, f12⟩
theorem d2_0 : decode jdk_42_method_152_code 0 = .ok (.getstatic 38, 3) := by decide +kernel
theorem d2_3 : decode jdk_42_method_152_code 3 = .ok (.ifCond .eq 10, 3) := by decide +kernel
theorem d2_6 : decode jdk_42_method_152_code 6 = .ok (.aload_n 0, 1) := by decide +kernel
theorem d2_7 : decode jdk_42_method_152_code 7 = .ok (.getfield 15, 3) := by decide +kernel
theorem d2_10 : decode jdk_42_method_152_code 10 = .ok (.goto 4, 3) := by decide +kernel
theorem d2_14 : decode jdk_42_method_152_code 14 = .ok (.ireturn, 1) := by decide +kernel
def rr_coderG : Room := { frames := 0, cells := 0, slots := 0, locals := 0 }
set_option maxRecDepth 65536 in
set_option maxHeartbeats 40000000 in
theorem rm_coderG (l : Launch) (Z : State) (a0 : Array Value) (hw : ∀ d ∈ tables_1, d.before a0 Z = true) (ws : List Jvm.Cond) (a1 : Addr) (cd zc : Int32) (h0 : Heap) (n0 : Nat) (Z0 : n0 ≤ h0.size) (O0 : Old Z n0 h0) (F0 : Fld Z h0 a1 "java/lang/String" "coder" "B" (.int cd)) (hcd : cd = 0 ∨ cd = 1) (CS : Sta Z Z.heap "java/lang/String" "COMPACT_STRINGS" "Z" (.int zc)) (hz : ¬ zc = 0) :
    Con l Z (⟨"java/lang/String", "coder", "()B"⟩ : MethodName) jdk_42_method_152_code 1 (some .byte) ws rr_coderG #[(.ref a1)] h0 (fun v h L => v = some (.int cd) ∧ Fr n0 L ∧ h = h0) := by
  refine Con.enter (plainFor_of_name pn2) ?_
  intro p e s m below meth c s₁ X0 hx hZ hby hml hret hlk hown hnm e0
  have N0 := Fr.nil n0
  refine Go.cast (g' := (mkF m 0 #[.val (.ref a1)] [])) (by first | rfl | (simp [entryFrame, mkF, argsToLocals, Value.category]; done)) ?_
  obtain ⟨T1, X1, e1, st1⟩ := getS2 X0 hx hZ hown (host := "") (Or.inl (w19 hw)) Via.refl e0 (CS.ext O0.2) (g := (mkF m 0 #[.val (.ref a1)] [])) rfl (hb hby d2_0)
  refine Go.st (T' := T1) (g' := (mkF m 3 #[.val (.ref a1)] [(.int zc)])) (fun _ zk => st1 _ zk) ?_
  refine Go.st (T' := T1) (g' := (mkF m 6 #[.val (.ref a1)] [])) (fun _ zk => XS.ifNo X1.here hx rfl (hb hby d2_3) rfl ((if0 _ _).trans (feq (hz : ¬ (zc = (0 : Int32)))).1) zk) ?_
  refine Go.st (T' := T1) (g' := (mkF m 7 #[.val (.ref a1)] [(.ref a1)])) (fun _ zk => XS.aloadN X1.here hx rfl (hb hby d2_6) rfl rfl zk) ?_
  obtain ⟨T2, X2, e2, st2⟩ := getF X1 hx hZ hown (host := "") (Or.inl (w20 hw)) Via.refl e1 F0 (g := (mkF m 7 #[.val (.ref a1)] [(.ref a1)])) rfl rfl (hb hby d2_7)
  refine Go.st (T' := T2) (g' := (mkF m 10 #[.val (.ref a1)] [(.int cd)])) (fun _ zk => st2 _ zk) ?_
  refine Go.st (T' := T2) (g' := (mkF m 14 #[.val (.ref a1)] [(.int cd)])) (fun _ zk => XS.goto X2.here hx rfl (pc0 := 10) (pc' := 14) rfl (hb hby d2_10) (by decide) (by decide) zk) ?_
  refine Go.retN X2 hx hlk hret (by rcases hcd with rfl | rfl <;> rfl) (by simp) (hb hby d2_14) (by decide) (by decide) e2 ?_
  exact ⟨rfl, N0, rfl⟩
theorem d1_0 : decode jdk_42_method_54_code 0 = .ok (.aload_n 0, 1) := by decide +kernel
theorem d1_1 : decode jdk_42_method_54_code 1 = .ok (.getfield 9, 3) := by decide +kernel
theorem d1_4 : decode jdk_42_method_54_code 4 = .ok (.arraylength, 1) := by decide +kernel
theorem d1_5 : decode jdk_42_method_54_code 5 = .ok (.aload_n 0, 1) := by decide +kernel
theorem w18 {a0 : Array Value} {Z : State} (hw : ∀ d ∈ tables_1, d.before a0 Z = true) : ((Jvm.Cond.code ({ cls := "java/lang/String", name := "coder", desc := "()B" } : Jvm.MethodName) jdk_42_method_152_code (1 : Nat) (Option.some Jvm.ClassFile.FieldType.byte))).before a0 Z = true := hw _ (List.mem_of_getElem? (i := 18) rfl)
theorem pd24 : parseMethodDescriptor "()B" = some ⟨[], some .byte⟩ := by decide +kernel
theorem d1_6 : decode jdk_42_method_54_code 6 = .ok (.invokevirtual 335, 3) := by decide +kernel
theorem w17 {a0 : Array Value} {Z : State} (hw : ∀ d ∈ tables_1, d.before a0 Z = true) : ((Jvm.Cond.selects "java/lang/String" ({ cls := "java/lang/String", name := "coder", desc := "()B" } : Jvm.MethodName) ({ cls := "java/lang/String", name := "coder", desc := "()B" } : Jvm.MethodName))).before a0 Z = true := hw _ (List.mem_of_getElem? (i := 17) rfl)
theorem w16 {a0 : Array Value} {Z : State} (hw : ∀ d ∈ tables_1, d.before a0 Z = true) : ((Jvm.Cond.instanceMethod ({ cls := "java/lang/String", name := "coder", desc := "()B" } : Jvm.MethodName))).before a0 Z = true := hw _ (List.mem_of_getElem? (i := 16) rfl)
theorem w14 {a0 : Array Value} {Z : State} (hw : ∀ d ∈ tables_1, d.before a0 Z = true) : ((Jvm.Cond.methodLink "java/lang/String" (335 : Nat) ({ cls := "java/lang/String", name := "coder", desc := "()B" } : Jvm.MethodName))).before a0 Z = true := hw _ (List.mem_of_getElem? (i := 14) rfl)
theorem w15 {a0 : Array Value} {Z : State} (hw : ∀ d ∈ tables_1, d.before a0 Z = true) : ((Jvm.Cond.declares ({ cls := "java/lang/String", name := "coder", desc := "()B" } : Jvm.MethodName))).before a0 Z = true := hw _ (List.mem_of_getElem? (i := 15) rfl)
theorem d1_9 : decode jdk_42_method_54_code 9 = .ok (.ishr, 1) := by decide +kernel
theorem d1_10 : decode jdk_42_method_54_code 10 = .ok (.ireturn, 1) := by decide +kernel
def rr_lengthG : Room := { frames := 1, cells := 0, slots := 0, locals := 13 }
set_option maxRecDepth 65536 in
set_option maxHeartbeats 40000000 in
theorem rm_lengthG (l : Launch) (Z : State) (a0 : Array Value) (hw : ∀ d ∈ tables_1, d.before a0 Z = true) (ws : List Jvm.Cond) (a1 : Addr) (bs : List Int32) (zc : Int32) (h0 : Heap) (n0 : Nat) (Z0 : n0 ≤ h0.size) (O0 : Old Z n0 h0) (S1 : StrB Z h0 a1 0 bs) (CS : Sta Z Z.heap "java/lang/String" "COMPACT_STRINGS" "Z" (.int zc)) (hz : ¬ zc = 0) :
    Con l Z (⟨"java/lang/String", "length", "()I"⟩ : MethodName) jdk_42_method_54_code 1 (some .int) ws rr_lengthG #[(.ref a1)] h0 (fun v h L => v = some (.int (Int32.ofNat bs.length)) ∧ Fr n0 L ∧ h = h0) := by
  refine Con.enter (plainFor_of_name pn2) ?_
  intro p e s m below meth c s₁ X0 hx hZ hby hml hret hlk hown hnm e0
  have N0 := Fr.nil n0
  refine Go.cast (g' := (mkF m 0 #[.val (.ref a1)] [])) (by first | rfl | (simp [entryFrame, mkF, argsToLocals, Value.category]; done)) ?_
  obtain ⟨t1, k1, E_a1, C_a1, F_a1, V_a1⟩ := S1
  refine Go.st (T' := s₁) (g' := (mkF m 1 #[.val (.ref a1)] [(.ref a1)])) (fun _ zk => XS.aloadN X0.here hx rfl (hb hby d1_0) rfl rfl zk) ?_
  obtain ⟨T1, X1, e1, st1⟩ := getF X0 hx hZ hown (host := "") (Or.inl (w13 hw)) Via.refl e0 F_a1 (g := (mkF m 1 #[.val (.ref a1)] [(.ref a1)])) rfl rfl (hb hby d1_1)
  refine Go.st (T' := T1) (g' := (mkF m 4 #[.val (.ref a1)] [(.ref t1)])) (fun _ zk => st1 _ zk) ?_
  refine Go.st (T' := T1) (g' := (mkF m 5 #[.val (.ref a1)] [(.int (Int32.ofNat bs.length))])) (fun _ zk => lenV X1 hx hZ e1 V_a1 (g := (mkF m 4 #[.val (.ref a1)] [(.ref t1)])) rfl (rest := []) rfl (hb hby d1_4) zk) ?_
  refine Go.st (T' := T1) (g' := (mkF m 6 #[.val (.ref a1)] [(.ref a1), (.int (Int32.ofNat bs.length))])) (fun _ zk => XS.aloadN X1.here hx rfl (hb hby d1_5) rfl rfl zk) ?_
  refine Go.callV (y := (⟨"java/lang/String", "coder", "()B"⟩ : MethodName)) (z := (⟨"java/lang/String", "coder", "()B"⟩ : MethodName)) (C := "java/lang/String") (a := a1) X1 hx hZ hown e1 (w14 hw) (w15 hw) (w17 hw) (w16 hw) (w1 hw) (w18 hw) (notFace_of_selects (args := #[]) (mvT hZ (w17 hw))) (by decide) E_a1 (argsL := []) (rest := [(.int (Int32.ofNat bs.length))]) (W := 1) (rm_coderG l Z a0 hw [] a1 0 zc h0 n0 Z0 O0 C_a1 (Or.inl rfl) CS hz) rfl (lenOf pd24 rfl) rfl (by rw [hml]; rfl) rfl (by show 2 * 0 + _ ≤ _; exact Nat.le_of_eq rfl) (by decide) (by decide) (by decide) (by decide) (hb hby d1_6) ?_
  intro v2 T2 h2 L2 X2 e2 q2
  obtain ⟨hv2, Nf2, hh2⟩ := q2
  subst hv2
  have E2 : T2.heap = h0 := e2.trans hh2
  have N2 := Fr.app N0 Nf2
  show Go p.tables e below _ T2 (mkF m 9 #[.val (.ref a1)] [(.int (0 : Int32)), (.int (Int32.ofNat bs.length))])
  refine Go.st (T' := T2) (g' := (mkF m 10 #[.val (.ref a1)] [(.int ((Int32.ofNat bs.length) >>> ((0 : Int32) &&& 31)))])) (fun _ zk => XS.ishr X2.here hx rfl (hb hby d1_9) rfl zk) ?_
  refine Go.retN X2 hx hlk hret rfl (by simp) (hb hby d1_10) (by decide) (by decide) E2 ?_
  rw [own_shr0]
  exact ⟨rfl, N2, rfl⟩
theorem d8_0 : decode jdk_41_method_11_code 0 = .ok (.iload_n 0, 1) := by decide +kernel
theorem d8_1 : decode jdk_41_method_11_code 1 = .ok (.ifCond .lt 8, 3) := by decide +kernel
theorem d8_4 : decode jdk_41_method_11_code 4 = .ok (.iload_n 0, 1) := by decide +kernel
theorem d8_5 : decode jdk_41_method_11_code 5 = .ok (.iload_n 1, 1) := by decide +kernel
theorem d8_6 : decode jdk_41_method_11_code 6 = .ok (.if_icmp .lt 10, 3) := by decide +kernel
theorem d8_16 : decode jdk_41_method_11_code 16 = .ok (.iload_n 0, 1) := by decide +kernel
theorem d8_17 : decode jdk_41_method_11_code 17 = .ok (.ireturn, 1) := by decide +kernel
def rr_preIdx : Room := { frames := 0, cells := 0, slots := 0, locals := 0 }
theorem pn25 : plainName "jdk/internal/util/Preconditions" = true := by first | (simp [plainName, overriddenIn]; done) | decide +kernel
set_option maxRecDepth 65536 in
set_option maxHeartbeats 40000000 in
theorem rm_preIdx (l : Launch) (Z : State) (a0 : Array Value) (hw : ∀ d ∈ tables_1, d.before a0 Z = true) (ws : List Jvm.Cond) (j n : Int32) (fm : Value) (h0 : Heap) (n0 : Nat) (Z0 : n0 ≤ h0.size) (rf : fm.isRef = true) (h1 : ¬ j < 0) (h2 : j < n) :
    Con l Z (⟨"jdk/internal/util/Preconditions", "checkIndex", "(IILjava/util/function/BiFunction;)I"⟩ : MethodName) jdk_41_method_11_code 3 (some .int) ws rr_preIdx #[(.int j), (.int n), fm] h0 (fun v h L => v = some (.int j) ∧ Fr n0 L ∧ h = h0) := by
  refine Con.enter (plainFor_of_name pn25) ?_
  intro p e s m below meth c s₁ X0 hx hZ hby hml hret hlk hown hnm e0
  have N0 := Fr.nil n0
  refine Go.cast (g' := (mkF m 0 #[.val (.int j), .val (.int n), .val fm] [])) (by rcases ref_cases rf with rfl | ⟨_, rfl⟩ <;> first | rfl | (simp [entryFrame, mkF, argsToLocals, Value.category]; done)) ?_
  refine Go.st (T' := s₁) (g' := (mkF m 1 #[.val (.int j), .val (.int n), .val fm] [(.int j)])) (fun _ zk => XS.iloadN X0.here hx rfl (hb hby d8_0) rfl zk) ?_
  refine Go.st (T' := s₁) (g' := (mkF m 4 #[.val (.int j), .val (.int n), .val fm] [])) (fun _ zk => XS.ifNo X0.here hx rfl (hb hby d8_1) rfl ((if0 _ _).trans (flt (h1 : ¬ (j < (0 : Int32)))).1) zk) ?_
  refine Go.st (T' := s₁) (g' := (mkF m 5 #[.val (.int j), .val (.int n), .val fm] [(.int j)])) (fun _ zk => XS.iloadN X0.here hx rfl (hb hby d8_4) rfl zk) ?_
  refine Go.st (T' := s₁) (g' := (mkF m 6 #[.val (.int j), .val (.int n), .val fm] [(.int n), (.int j)])) (fun _ zk => XS.iloadN X0.here hx rfl (hb hby d8_5) rfl zk) ?_
  refine Go.st (T' := s₁) (g' := (mkF m 16 #[.val (.int j), .val (.int n), .val fm] [])) (fun _ zk => XS.icmpYes X0.here hx rfl (pc0 := 6) (pc' := 16) rfl (hb hby d8_6) rfl (tlt (h2 : j < n)).1 (by decide) (by decide) zk) ?_
  refine Go.st (T' := s₁) (g' := (mkF m 17 #[.val (.int j), .val (.int n), .val fm] [(.int j)])) (fun _ zk => XS.iloadN X0.here hx rfl (hb hby d8_16) rfl zk) ?_
  refine Go.retN X0 hx hlk hret rfl (by simp) (hb hby d8_17) (by decide) (by decide) e0 ?_
  exact ⟨rfl, N0, rfl⟩
theorem d7_0 : decode jdk_42_method_155_code 0 = .ok (.iload_n 0, 1) := by decide +kernel
theorem d7_1 : decode jdk_42_method_155_code 1 = .ok (.iload_n 1, 1) := by decide +kernel
theorem d7_2 : decode jdk_42_method_155_code 2 = .ok (.getstatic 1053, 3) := by decide +kernel
theorem w45 {a0 : Array Value} {Z : State} (hw : ∀ d ∈ tables_1, d.before a0 Z = true) : ((Jvm.Cond.fieldLink "java/lang/String" (1053 : Nat) "jdk/internal/util/Preconditions" "SIOOBE_FORMATTER" "Ljava/util/function/BiFunction;")).before a0 Z = true := hw _ (List.mem_of_getElem? (i := 45) rfl)
theorem w49 {a0 : Array Value} {Z : State} (hw : ∀ d ∈ tables_1, d.before a0 Z = true) : ((Jvm.Cond.code ({ cls := "jdk/internal/util/Preconditions", name := "checkIndex", desc := "(IILjava/util/function/BiFunction;)I" } : Jvm.MethodName) jdk_41_method_11_code (3 : Nat) (Option.some Jvm.ClassFile.FieldType.int))).before a0 Z = true := hw _ (List.mem_of_getElem? (i := 49) rfl)
theorem w46 {a0 : Array Value} {Z : State} (hw : ∀ d ∈ tables_1, d.before a0 Z = true) : ((Jvm.Cond.initialized "jdk/internal/util/Preconditions")).before a0 Z = true := hw _ (List.mem_of_getElem? (i := 46) rfl)
theorem pd26 : parseMethodDescriptor "(IILjava/util/function/BiFunction;)I" = some ⟨[.int, .int, (.object "java/util/function/BiFunction")], some .int⟩ := by decide +kernel
theorem d7_5 : decode jdk_42_method_155_code 5 = .ok (.invokestatic 1059, 3) := by decide +kernel
theorem w47 {a0 : Array Value} {Z : State} (hw : ∀ d ∈ tables_1, d.before a0 Z = true) : ((Jvm.Cond.methodLink "java/lang/String" (1059 : Nat) ({ cls := "jdk/internal/util/Preconditions", name := "checkIndex", desc := "(IILjava/util/function/BiFunction;)I" } : Jvm.MethodName))).before a0 Z = true := hw _ (List.mem_of_getElem? (i := 47) rfl)
theorem w48 {a0 : Array Value} {Z : State} (hw : ∀ d ∈ tables_1, d.before a0 Z = true) : ((Jvm.Cond.static ({ cls := "jdk/internal/util/Preconditions", name := "checkIndex", desc := "(IILjava/util/function/BiFunction;)I" } : Jvm.MethodName))).before a0 Z = true := hw _ (List.mem_of_getElem? (i := 48) rfl)
theorem d7_8 : decode jdk_42_method_155_code 8 = .ok (.pop, 1) := by decide +kernel
theorem d7_9 : decode jdk_42_method_155_code 9 = .ok (.return_, 1) := by decide +kernel
def rr_strIdx : Room := { frames := 1, cells := 0, slots := 0, locals := 14 }
set_option maxRecDepth 65536 in
set_option maxHeartbeats 40000000 in
theorem rm_strIdx (l : Launch) (Z : State) (a0 : Array Value) (hw : ∀ d ∈ tables_1, d.before a0 Z = true) (ws : List Jvm.Cond) (j n : Int32) (fm : Value) (h0 : Heap) (n0 : Nat) (Z0 : n0 ≤ h0.size) (O0 : Old Z n0 h0) (FM : Sta Z Z.heap "jdk/internal/util/Preconditions" "SIOOBE_FORMATTER" "Ljava/util/function/BiFunction;" fm) (rf : fm.isRef = true) (h1 : ¬ j < 0) (h2 : j < n) :
    Con l Z (⟨"java/lang/String", "checkIndex", "(II)V"⟩ : MethodName) jdk_42_method_155_code 2 none ws rr_strIdx #[(.int j), (.int n)] h0 (fun v h L => v = none ∧ Fr n0 L ∧ h = h0) := by
  refine Con.enter (plainFor_of_name pn2) ?_
  intro p e s m below meth c s₁ X0 hx hZ hby hml hret hlk hown hnm e0
  have N0 := Fr.nil n0
  refine Go.cast (g' := (mkF m 0 #[.val (.int j), .val (.int n)] [])) (by first | rfl | (simp [entryFrame, mkF, argsToLocals, Value.category]; done)) ?_
  refine Go.st (T' := s₁) (g' := (mkF m 1 #[.val (.int j), .val (.int n)] [(.int j)])) (fun _ zk => XS.iloadN X0.here hx rfl (hb hby d7_0) rfl zk) ?_
  refine Go.st (T' := s₁) (g' := (mkF m 2 #[.val (.int j), .val (.int n)] [(.int n), (.int j)])) (fun _ zk => XS.iloadN X0.here hx rfl (hb hby d7_1) rfl zk) ?_
  obtain ⟨T1, X1, e1, st1⟩ := getS2 X0 hx hZ hown (host := "") (Or.inl (w45 hw)) Via.refl e0 (FM.ext O0.2) (g := (mkF m 2 #[.val (.int j), .val (.int n)] [(.int n), (.int j)])) rfl (hb hby d7_2)
  refine Go.st (T' := T1) (g' := (mkF m 5 #[.val (.int j), .val (.int n)] [fm, (.int n), (.int j)])) (fun _ zk => st1 _ zk) ?_
  refine Go.callSt (y := (⟨"jdk/internal/util/Preconditions", "checkIndex", "(IILjava/util/function/BiFunction;)I"⟩ : MethodName)) X1 hx hZ hown e1 (w47 hw) (w48 hw) (w46 hw) (w49 hw) (by decide) (argsL := [(.int j), (.int n), fm]) (rest := []) (W := 0) (rm_preIdx l Z a0 hw [] j n fm h0 n0 Z0 rf h1 h2) rfl (lenOf pd26 rfl) rfl (by rw [hml]; rfl) rfl (by show 2 * 0 + _ ≤ _; exact Nat.le_of_eq rfl) (by decide) (by decide) (by decide) (by decide) (hb hby d7_5) ?_
  intro v2 T2 h2 L2 X2 e2 q2
  obtain ⟨hv2, Nf2, hh2⟩ := q2
  subst hv2
  have E2 : T2.heap = h0 := e2.trans hh2
  have N2 := Fr.app N0 Nf2
  show Go p.tables e below _ T2 (mkF m 8 #[.val (.int j), .val (.int n)] [(.int j)])
  refine Go.st (T' := T2) (g' := (mkF m 9 #[.val (.int j), .val (.int n)] [])) (fun _ zk => XS.pop X2.here hx rfl (hb hby d7_8) rfl rfl zk) ?_
  refine Go.retV X2 hx hlk hret (hb hby d7_9) (by decide) (by decide) E2 ?_
  exact ⟨rfl, N2, rfl⟩
theorem d6_0 : decode jdk_43_method_2_code 0 = .ok (.iload_n 1, 1) := by decide +kernel
theorem d6_1 : decode jdk_43_method_2_code 1 = .ok (.aload_n 0, 1) := by decide +kernel
theorem d6_2 : decode jdk_43_method_2_code 2 = .ok (.arraylength, 1) := by decide +kernel
theorem w44 {a0 : Array Value} {Z : State} (hw : ∀ d ∈ tables_1, d.before a0 Z = true) : ((Jvm.Cond.code ({ cls := "java/lang/String", name := "checkIndex", desc := "(II)V" } : Jvm.MethodName) jdk_42_method_155_code (2 : Nat) (Option.none : Option Jvm.ClassFile.FieldType))).before a0 Z = true := hw _ (List.mem_of_getElem? (i := 44) rfl)
theorem d6_3 : decode jdk_43_method_2_code 3 = .ok (.invokestatic 9, 3) := by decide +kernel
theorem w42 {a0 : Array Value} {Z : State} (hw : ∀ d ∈ tables_1, d.before a0 Z = true) : ((Jvm.Cond.methodLink "java/lang/StringLatin1" (9 : Nat) ({ cls := "java/lang/String", name := "checkIndex", desc := "(II)V" } : Jvm.MethodName))).before a0 Z = true := hw _ (List.mem_of_getElem? (i := 42) rfl)
theorem w43 {a0 : Array Value} {Z : State} (hw : ∀ d ∈ tables_1, d.before a0 Z = true) : ((Jvm.Cond.static ({ cls := "java/lang/String", name := "checkIndex", desc := "(II)V" } : Jvm.MethodName))).before a0 Z = true := hw _ (List.mem_of_getElem? (i := 43) rfl)
theorem d6_6 : decode jdk_43_method_2_code 6 = .ok (.aload_n 0, 1) := by decide +kernel
theorem d6_7 : decode jdk_43_method_2_code 7 = .ok (.iload_n 1, 1) := by decide +kernel
theorem d6_8 : decode jdk_43_method_2_code 8 = .ok (.baload, 1) := by decide +kernel
theorem d6_9 : decode jdk_43_method_2_code 9 = .ok (.sipush 255, 3) := by decide +kernel
theorem d6_12 : decode jdk_43_method_2_code 12 = .ok (.iand, 1) := by decide +kernel
theorem d6_13 : decode jdk_43_method_2_code 13 = .ok (.i2c, 1) := by decide +kernel
theorem d6_14 : decode jdk_43_method_2_code 14 = .ok (.ireturn, 1) := by decide +kernel
def rr_latinAt : Room := { frames := 2, cells := 0, slots := 0, locals := 27 }
set_option maxRecDepth 65536 in
set_option maxHeartbeats 40000000 in
theorem rm_latinAt (l : Launch) (Z : State) (a0 : Array Value) (hw : ∀ d ∈ tables_1, d.before a0 Z = true) (ws : List Jvm.Cond) (t1 : Addr) (k1 : ClassId) (bs : List Int32) (i : Nat) (fm : Value) (h0 : Heap) (n0 : Nat) (Z0 : n0 ≤ h0.size) (O0 : Old Z n0 h0) (V1 : Arv Z h0 t1 k1 .byte (Int32.ofNat bs.length) (bs.map Value.int) (.int (0 : Int32))) (lb : bs.length < 2 ^ 31) (hi : i < bs.length) (FM : Sta Z Z.heap "jdk/internal/util/Preconditions" "SIOOBE_FORMATTER" "Ljava/util/function/BiFunction;" fm) (rf : fm.isRef = true) :
    Con l Z (⟨"java/lang/StringLatin1", "charAt", "([BI)C"⟩ : MethodName) jdk_43_method_2_code 2 (some .char) ws rr_latinAt #[(.ref t1), (.int (Int32.ofNat i))] h0 (fun v h L => v = some (.int (((bs.getD i 0) &&& (255 : Int32)).toUInt32.toUInt16.toUInt32.toInt32)) ∧ Fr n0 L ∧ h = h0) := by
  refine Con.enter (plainFor_of_name pn0) ?_
  intro p e s m below meth c s₁ X0 hx hZ hby hml hret hlk hown hnm e0
  have N0 := Fr.nil n0
  refine Go.cast (g' := (mkF m 0 #[.val (.ref t1), .val (.int (Int32.ofNat i))] [])) (by first | rfl | (simp [entryFrame, mkF, argsToLocals, Value.category]; done)) ?_
  refine Go.st (T' := s₁) (g' := (mkF m 1 #[.val (.ref t1), .val (.int (Int32.ofNat i))] [(.int (Int32.ofNat i))])) (fun _ zk => XS.iloadN X0.here hx rfl (hb hby d6_0) rfl zk) ?_
  refine Go.st (T' := s₁) (g' := (mkF m 2 #[.val (.ref t1), .val (.int (Int32.ofNat i))] [(.ref t1), (.int (Int32.ofNat i))])) (fun _ zk => XS.aloadN X0.here hx rfl (hb hby d6_1) rfl rfl zk) ?_
  refine Go.st (T' := s₁) (g' := (mkF m 3 #[.val (.ref t1), .val (.int (Int32.ofNat i))] [(.int (Int32.ofNat bs.length)), (.int (Int32.ofNat i))])) (fun _ zk => lenV X0 hx hZ e0 V1 (g := (mkF m 2 #[.val (.ref t1), .val (.int (Int32.ofNat i))] [(.ref t1), (.int (Int32.ofNat i))])) rfl (rest := [(.int (Int32.ofNat i))]) rfl (hb hby d6_2) zk) ?_
  refine Go.callSt (y := (⟨"java/lang/String", "checkIndex", "(II)V"⟩ : MethodName)) X0 hx hZ hown e0 (w42 hw) (w43 hw) (w1 hw) (w44 hw) (by decide) (argsL := [(.int (Int32.ofNat i)), (.int (Int32.ofNat bs.length))]) (rest := []) (W := 0) (rm_strIdx l Z a0 hw [] (Int32.ofNat i) (Int32.ofNat bs.length) fm h0 n0 Z0 O0 FM rf (own_ofn0 (by omega)) (own_oflt hi lb)) rfl (lenOf pd14 rfl) rfl (by rw [hml]; rfl) rfl (by show 2 * 0 + _ ≤ _; exact Nat.le_of_eq rfl) (by decide) (by decide) (by decide) (by decide) (hb hby d6_3) ?_
  intro v1 T1 h1 L1 X1 e1 q1
  obtain ⟨hv1, Nf1, hh1⟩ := q1
  subst hv1
  have E1 : T1.heap = h0 := e1.trans hh1
  have N1 := Fr.app N0 Nf1
  show Go p.tables e below _ T1 (mkF m 6 #[.val (.ref t1), .val (.int (Int32.ofNat i))] [])
  refine Go.st (T' := T1) (g' := (mkF m 7 #[.val (.ref t1), .val (.int (Int32.ofNat i))] [(.ref t1)])) (fun _ zk => XS.aloadN X1.here hx rfl (hb hby d6_6) rfl rfl zk) ?_
  refine Go.st (T' := T1) (g' := (mkF m 8 #[.val (.ref t1), .val (.int (Int32.ofNat i))] [(.int (Int32.ofNat i)), (.ref t1)])) (fun _ zk => XS.iloadN X1.here hx rfl (hb hby d6_7) rfl zk) ?_
  refine Go.st (T' := T1) (g' := (mkF m 9 #[.val (.ref t1), .val (.int (Int32.ofNat i))] [(.int (bs.getD i 0))])) (fun _ zk => ldBV X1 hx hZ E1 V1 (j := (Int32.ofNat i)) ⟨own_ofn0 (by omega), own_oflt hi lb⟩ (v := (.int (bs.getD i 0))) (by rw [own_clamp (by omega)]; exact own_getD bs i) (g := (mkF m 8 #[.val (.ref t1), .val (.int (Int32.ofNat i))] [(.int (Int32.ofNat i)), (.ref t1)])) rfl (rest := []) rfl (hb hby d6_8) zk) ?_
  refine Go.st (T' := T1) (g' := (mkF m 12 #[.val (.ref t1), .val (.int (Int32.ofNat i))] [(.int (255 : Int32)), (.int (bs.getD i 0))])) (fun _ zk => XS.sipush X1.here hx rfl (hb hby d6_9) zk) ?_
  refine Go.st (T' := T1) (g' := (mkF m 13 #[.val (.ref t1), .val (.int (Int32.ofNat i))] [(.int ((bs.getD i 0) &&& (255 : Int32)))])) (fun _ zk => XS.iand X1.here hx rfl (hb hby d6_12) rfl zk) ?_
  refine Go.st (T' := T1) (g' := (mkF m 14 #[.val (.ref t1), .val (.int (Int32.ofNat i))] [(.int (((bs.getD i 0) &&& (255 : Int32)).toUInt32.toUInt16.toUInt32.toInt32))])) (fun _ zk => XS.i2c X1.here hx rfl (hb hby d6_13) rfl zk) ?_
  refine Go.retN X1 hx hlk hret (congrArg Value.int nar_c) (by simp) (hb hby d6_14) (by decide) (by decide) E1 ?_
  exact ⟨rfl, N1, rfl⟩
theorem d4_0 : decode jdk_42_method_56_code 0 = .ok (.aload_n 0, 1) := by decide +kernel
theorem d4_1 : decode jdk_42_method_56_code 1 = .ok (.invokevirtual 492, 3) := by decide +kernel
theorem d4_4 : decode jdk_42_method_56_code 4 = .ok (.ifCond .eq 12, 3) := by decide +kernel
theorem d4_7 : decode jdk_42_method_56_code 7 = .ok (.aload_n 0, 1) := by decide +kernel
theorem d4_8 : decode jdk_42_method_56_code 8 = .ok (.getfield 9, 3) := by decide +kernel
theorem d4_11 : decode jdk_42_method_56_code 11 = .ok (.iload_n 1, 1) := by decide +kernel
theorem w41 {a0 : Array Value} {Z : State} (hw : ∀ d ∈ tables_1, d.before a0 Z = true) : ((Jvm.Cond.code ({ cls := "java/lang/StringLatin1", name := "charAt", desc := "([BI)C" } : Jvm.MethodName) jdk_43_method_2_code (2 : Nat) (Option.some Jvm.ClassFile.FieldType.char))).before a0 Z = true := hw _ (List.mem_of_getElem? (i := 41) rfl)
theorem d4_12 : decode jdk_42_method_56_code 12 = .ok (.invokestatic 495, 3) := by decide +kernel
theorem w38 {a0 : Array Value} {Z : State} (hw : ∀ d ∈ tables_1, d.before a0 Z = true) : ((Jvm.Cond.methodLink "java/lang/String" (495 : Nat) ({ cls := "java/lang/StringLatin1", name := "charAt", desc := "([BI)C" } : Jvm.MethodName))).before a0 Z = true := hw _ (List.mem_of_getElem? (i := 38) rfl)
theorem w39 {a0 : Array Value} {Z : State} (hw : ∀ d ∈ tables_1, d.before a0 Z = true) : ((Jvm.Cond.static ({ cls := "java/lang/StringLatin1", name := "charAt", desc := "([BI)C" } : Jvm.MethodName))).before a0 Z = true := hw _ (List.mem_of_getElem? (i := 39) rfl)
theorem d4_15 : decode jdk_42_method_56_code 15 = .ok (.ireturn, 1) := by decide +kernel
def rr_charAtG : Room := { frames := 3, cells := 0, slots := 0, locals := 40 }
set_option maxRecDepth 65536 in
set_option maxHeartbeats 40000000 in
theorem rm_charAtG (l : Launch) (Z : State) (a0 : Array Value) (hw : ∀ d ∈ tables_1, d.before a0 Z = true) (ws : List Jvm.Cond) (a1 : Addr) (bs : List Int32) (i : Nat) (zc : Int32) (fm : Value) (h0 : Heap) (n0 : Nat) (Z0 : n0 ≤ h0.size) (O0 : Old Z n0 h0) (S1 : StrB Z h0 a1 0 bs) (lb : bs.length < 2 ^ 31) (hi : i < bs.length) (CS : Sta Z Z.heap "java/lang/String" "COMPACT_STRINGS" "Z" (.int zc)) (hz : ¬ zc = 0) (FM : Sta Z Z.heap "jdk/internal/util/Preconditions" "SIOOBE_FORMATTER" "Ljava/util/function/BiFunction;" fm) (rf : fm.isRef = true) :
    Con l Z (⟨"java/lang/String", "charAt", "(I)C"⟩ : MethodName) jdk_42_method_56_code 2 (some .char) ws rr_charAtG #[(.ref a1), (.int (Int32.ofNat i))] h0 (fun v h L => v = some (.int (((bs.getD i 0) &&& (255 : Int32)).toUInt32.toUInt16.toUInt32.toInt32)) ∧ Fr n0 L ∧ h = h0) := by
  refine Con.enter (plainFor_of_name pn2) ?_
  intro p e s m below meth c s₁ X0 hx hZ hby hml hret hlk hown hnm e0
  have N0 := Fr.nil n0
  refine Go.cast (g' := (mkF m 0 #[.val (.ref a1), .val (.int (Int32.ofNat i))] [])) (by first | rfl | (simp [entryFrame, mkF, argsToLocals, Value.category]; done)) ?_
  obtain ⟨t1, k1, E_a1, C_a1, F_a1, V_a1⟩ := S1
  refine Go.st (T' := s₁) (g' := (mkF m 1 #[.val (.ref a1), .val (.int (Int32.ofNat i))] [(.ref a1)])) (fun _ zk => XS.aloadN X0.here hx rfl (hb hby d4_0) rfl rfl zk) ?_
  refine Go.callV (y := (⟨"java/lang/String", "isLatin1", "()Z"⟩ : MethodName)) (z := (⟨"java/lang/String", "isLatin1", "()Z"⟩ : MethodName)) (C := "java/lang/String") (a := a1) X0 hx hZ hown e0 (w33 hw) (w34 hw) (w36 hw) (w35 hw) (w1 hw) (w37 hw) (notFace_of_selects (args := #[]) (mvT hZ (w36 hw))) (by decide) E_a1 (argsL := []) (rest := []) (W := 0) (rm_isLatin1G l Z a0 hw [] a1 zc h0 n0 Z0 O0 C_a1 CS hz) rfl (lenOf pd20 rfl) rfl (by rw [hml]; rfl) rfl (by show 2 * 0 + _ ≤ _; exact Nat.le_of_eq rfl) (by decide) (by decide) (by decide) (by decide) (hb hby d4_1) ?_
  intro v1 T1 h1 L1 X1 e1 q1
  obtain ⟨hv1, Nf1, hh1⟩ := q1
  subst hv1
  have E1 : T1.heap = h0 := e1.trans hh1
  have N1 := Fr.app N0 Nf1
  show Go p.tables e below _ T1 (mkF m 4 #[.val (.ref a1), .val (.int (Int32.ofNat i))] [(.int (1 : Int32))])
  refine Go.st (T' := T1) (g' := (mkF m 7 #[.val (.ref a1), .val (.int (Int32.ofNat i))] [])) (fun _ zk => XS.ifNo X1.here hx rfl (hb hby d4_4) rfl ((if0 _ _).trans (feq ((by decide) : ¬ ((1 : Int32) = (0 : Int32)))).1) zk) ?_
  refine Go.st (T' := T1) (g' := (mkF m 8 #[.val (.ref a1), .val (.int (Int32.ofNat i))] [(.ref a1)])) (fun _ zk => XS.aloadN X1.here hx rfl (hb hby d4_7) rfl rfl zk) ?_
  obtain ⟨T2, X2, e2, st2⟩ := getF X1 hx hZ hown (host := "") (Or.inl (w13 hw)) Via.refl E1 F_a1 (g := (mkF m 8 #[.val (.ref a1), .val (.int (Int32.ofNat i))] [(.ref a1)])) rfl rfl (hb hby d4_8)
  refine Go.st (T' := T2) (g' := (mkF m 11 #[.val (.ref a1), .val (.int (Int32.ofNat i))] [(.ref t1)])) (fun _ zk => st2 _ zk) ?_
  refine Go.st (T' := T2) (g' := (mkF m 12 #[.val (.ref a1), .val (.int (Int32.ofNat i))] [(.int (Int32.ofNat i)), (.ref t1)])) (fun _ zk => XS.iloadN X2.here hx rfl (hb hby d4_11) rfl zk) ?_
  refine Go.callSt (y := (⟨"java/lang/StringLatin1", "charAt", "([BI)C"⟩ : MethodName)) X2 hx hZ hown e2 (w38 hw) (w39 hw) (w40 hw) (w41 hw) (by decide) (argsL := [(.ref t1), (.int (Int32.ofNat i))]) (rest := []) (W := 0) (rm_latinAt l Z a0 hw [] t1 k1 bs i fm h0 n0 Z0 O0 V_a1 lb hi FM rf) rfl (lenOf pd10 rfl) rfl (by rw [hml]; rfl) rfl (by show 2 * 0 + _ ≤ _; exact Nat.le_of_eq rfl) (by decide) (by decide) (by decide) (by decide) (hb hby d4_12) ?_
  intro v3 T3 h3 L3 X3 e3 q3
  obtain ⟨hv3, Nf3, hh3⟩ := q3
  subst hv3
  have E3 : T3.heap = h0 := e3.trans hh3
  have N3 := Fr.app N1 Nf3
  show Go p.tables e below _ T3 (mkF m 15 #[.val (.ref a1), .val (.int (Int32.ofNat i))] [(.int (((bs.getD i 0) &&& (255 : Int32)).toUInt32.toUInt16.toUInt32.toInt32))])
  refine Go.retN X3 hx hlk hret (congrArg Value.int nar_c) (by simp) (hb hby d4_15) (by decide) (by decide) E3 ?_
  exact ⟨rfl, N3, rfl⟩
theorem own_4 {i : Int32} (h : 0 ≤ i.toInt ∧ i.toInt ≤ 3) : i = 0 ∨ i = 1 ∨ i = 2 ∨ i = 3 := by
  have e : ∀ k : Int32, i.toInt = k.toInt → i = k := fun k q => Int32.toInt_inj.mp q
  have h2 : i.toInt = 0 ∨ i.toInt = 1 ∨ i.toInt = 2 ∨ i.toInt = 3 := by omega
  rcases h2 with q | q | q | q
  · exact Or.inl (e 0 q)
  · exact Or.inr (Or.inl (e 1 q))
  · exact Or.inr (Or.inr (Or.inl (e 2 q)))
  · exact Or.inr (Or.inr (Or.inr (e 3 q)))
theorem own_m4 (x : Int32) : 0 ≤ (x &&& 3).toInt ∧ (x &&& 3).toInt ≤ 3 := by
  have h := c_mask x 3 2 (by decide) (by decide)
  omega
def wsr (w : Int32) : Prop := (9 ≤ w.toInt ∧ w.toInt ≤ 13) ∨ (28 ≤ w.toInt ∧ w.toInt ≤ 32)
theorem own_wsr {w : Int32} (h : wsr w) : WS w := by
  have e : ∀ k : Int32, w.toInt = k.toInt → w = k := fun k q => Int32.toInt_inj.mp q
  have h2 : w.toInt = 9 ∨ w.toInt = 10 ∨ w.toInt = 11 ∨ w.toInt = 12 ∨ w.toInt = 13 ∨ w.toInt = 28 ∨ w.toInt = 29 ∨ w.toInt = 30 ∨ w.toInt = 31 ∨ w.toInt = 32 := by unfold wsr at h; omega
  rcases h2 with q | q | q | q | q | q | q | q | q | q
  · rw [e 9 q]; unfold WS; decide +kernel
  · rw [e 10 q]; unfold WS; decide +kernel
  · rw [e 11 q]; unfold WS; decide +kernel
  · rw [e 12 q]; unfold WS; decide +kernel
  · rw [e 13 q]; unfold WS; decide +kernel
  · rw [e 28 q]; unfold WS; decide +kernel
  · rw [e 29 q]; unfold WS; decide +kernel
  · rw [e 30 q]; unfold WS; decide +kernel
  · rw [e 31 q]; unfold WS; decide +kernel
  · rw [e 32 q]; unfold WS; decide +kernel
def putAt (W : List Int32) (p : Nat) : List Int32 → List Int32
  | [] => W
  | t :: r => putAt (W.set p t) (p + 1) r
theorem putAt_len : ∀ (t W : List Int32) (p : Nat), (putAt W p t).length = W.length
  | [], _, _ => rfl
  | a :: r, W, p => by rw [putAt, putAt_len r]; exact List.length_set
theorem putAt_get : ∀ (t W : List Int32) (p i : Nat), p + t.length ≤ W.length → (putAt W p t).getD i 0 = if p ≤ i ∧ i < p + t.length then t.getD (i - p) 0 else W.getD i 0
  | [], W, p, i, _ => by rw [if_neg (by simp only [List.length_nil]; omega)]; rfl
  | a :: r, W, p, i, h => by
    simp only [List.length_cons] at h
    rw [putAt, putAt_get r (W.set p a) (p + 1) i (by rw [List.length_set]; omega)]
    simp only [List.length_cons]
    by_cases q : i = p
    · subst q
      rw [if_neg (by omega), if_pos (by omega), Nat.sub_self, List.getD_eq_getElem?_getD, List.getElem?_set_self (by omega)]; rfl
    · by_cases z : p + 1 ≤ i ∧ i < p + 1 + r.length
      · rw [if_pos z, if_pos (by omega), show i - p = (i - (p + 1)) + 1 by omega]; rfl
      · rw [if_neg z, if_neg (by omega), List.getD_eq_getElem?_getD, List.getElem?_set_ne (Ne.symm q), ← List.getD_eq_getElem?_getD]
theorem own_bufr {W TB : List Int32} {p : Nat} (hW : W.length = 7) (hw : ∀ c ∈ W, wsr c) (hT : ∀ c ∈ TB, (0 ≤ c.toInt ∧ c.toInt ≤ 127) ∧ ¬ WS c) (hp : p + TB.length ≤ 7) {i : Nat} (hi : i < 7) :
    (0 ≤ ((putAt W p TB).getD i 0).toInt ∧ ((putAt W p TB).getD i 0).toInt ≤ 127) ∧ ((p ≤ i ∧ i < p + TB.length) → ¬ WS ((putAt W p TB).getD i 0)) ∧ (¬ (p ≤ i ∧ i < p + TB.length) → WS ((putAt W p TB).getD i 0)) := by
  rw [putAt_get TB W p i (by omega)]
  by_cases q : p ≤ i ∧ i < p + TB.length
  · rw [if_pos q]
    have e : TB.getD (i - p) 0 = TB[i - p]'(by omega) := by simp [List.getD_eq_getElem?_getD, show i - p < TB.length by omega]
    rw [e]
    have z := hT _ (List.getElem_mem (show i - p < TB.length by omega))
    exact ⟨z.1, fun _ => z.2, fun n => absurd q n⟩
  · rw [if_neg q]
    have e : W.getD i 0 = W[i]'(by omega) := by simp [List.getD_eq_getElem?_getD, hW, hi]
    rw [e]
    have z := hw _ (List.getElem_mem (show i < W.length by omega))
    exact ⟨by unfold wsr at z; omega, fun n => absurd n q, fun _ => own_wsr z⟩
theorem own_bufle {W TB : List Int32} {p : Nat} (hW : W.length = 7) (hw : ∀ c ∈ W, wsr c) (hT : ∀ c ∈ TB, (0 ≤ c.toInt ∧ c.toInt ≤ 127) ∧ ¬ WS c) (hp : p + TB.length ≤ 7) : ∀ i, i < 7 → ¬ (255 : Int32) < (putAt W p TB).getD i 0 := fun i hi => le255 (by have := (own_bufr hW hw hT hp hi).1; omega)
theorem own_buf {W TB xs : List Int32} {p : Nat} (hW : W.length = 7) (hw : ∀ c ∈ W, wsr c) (hT : ∀ c ∈ TB, (0 ≤ c.toInt ∧ c.toInt ≤ 127) ∧ ¬ WS c) (h0 : 0 < TB.length) (hp : p + TB.length ≤ 7) (hl : xs.length = 7) (hx : ∀ i, i < 7 → xs.getD i 0 = (((putAt W p TB).getD i 0).toInt8.toInt32)) :
    (∀ i, i < p → WS (((xs.getD i 0) &&& (255 : Int32)).toUInt32.toUInt16.toUInt32.toInt32)) ∧ ¬ WS (((xs.getD p 0) &&& (255 : Int32)).toUInt32.toUInt16.toUInt32.toInt32) ∧ (∀ i, p + TB.length ≤ i → i < xs.length → WS (((xs.getD i 0) &&& (255 : Int32)).toUInt32.toUInt16.toUInt32.toInt32)) ∧ ¬ WS (((xs.getD (p + TB.length - 1) 0) &&& (255 : Int32)).toUInt32.toUInt16.toUInt32.toInt32) ∧ (xs.drop p).take (p + TB.length - p) = TB := by
  have u : ∀ i, i < 7 → (((xs.getD i 0) &&& (255 : Int32)).toUInt32.toUInt16.toUInt32.toInt32) = (putAt W p TB).getD i 0 := fun i hi => by
    have z := own_bufr hW hw hT hp hi
    rw [hx i hi, own_u8c (by omega) (own_bufle hW hw hT hp i hi)]
  refine ⟨fun i hi => ?_, ?_, fun i h1 h2 => ?_, ?_, ?_⟩
  · rw [u i (by omega)]; exact (own_bufr hW hw hT hp (by omega)).2.2 (by omega)
  · rw [u p (by omega)]; exact (own_bufr hW hw hT hp (by omega)).2.1 (by omega)
  · rw [u i (by omega)]; exact (own_bufr hW hw hT hp (by omega)).2.2 (by omega)
  · rw [u _ (by omega)]; exact (own_bufr hW hw hT hp (by omega)).2.1 (by omega)
  · apply List.ext_getElem
    · rw [List.length_take, List.length_drop]; omega
    · intro i h1 h2
      rw [List.getElem_take, List.getElem_drop]
      have a1 : xs[p + i]'(by omega) = xs.getD (p + i) 0 := by simp [List.getD_eq_getElem?_getD, show p + i < xs.length by omega]
      have a2 : TB[i] = TB.getD i 0 := by simp [List.getD_eq_getElem?_getD, h2]
      rw [a1, a2, hx _ (by omega), putAt_get TB W p _ (by omega), if_pos (by omega), Nat.add_sub_cancel_left, i2b_id]
      rw [← a2]
      have z := (hT _ (List.getElem_mem h2)).1
      omega
theorem own_pn (x k : Int32) (m : Nat) (hk : k.toInt = m) (hm : 0 < m ∧ m ≤ 8) : ∃ n : Nat, (x &&& 2147483647) % k = Int32.ofNat n ∧ n < m := by
  have h := c_mask x 2147483647 31 (by decide) (by decide)
  have h1 := (c_irem (x &&& 2147483647) k m hk).1 (by omega)
  have a := Int.emod_nonneg (x &&& 2147483647).toInt (b := (m : Int)) (by omega)
  have b := Int.emod_lt_of_pos (x &&& 2147483647).toInt (b := (m : Int)) (by omega)
  refine ⟨((x &&& 2147483647) % k).toInt.toNat, Int32.toInt_inj.mp ?_, by omega⟩
  rw [Int32.toInt_ofNat_of_lt (by omega)]
  omega
theorem own_hasL {c : Cell} : ∀ (t : List Int32) (k : Nat), (∀ j, j < t.length → c.slots[k + j]? = some (.int (t.getD j 0))) → HasL c k (t.map Value.int)
  | [], _, _ => trivial
  | a :: r, k, h => ⟨h 0 (Nat.succ_pos _), own_hasL r (k + 1) fun j hj => by have q := h (j + 1) (Nat.succ_lt_succ hj); rw [show k + (j + 1) = k + 1 + j by omega] at q; exact q⟩
set_option maxHeartbeats 40000000 in
set_option maxRecDepth 65536 in
theorem own_tab0 : ∀ i, i < 256 → jdkStatics_1[17 + i]? = some (Jvm.Cond.eq (Jvm.Term.elem (Jvm.Term.static "java/lang/CharacterDataLatin1" "A" "[I") (Jvm.Term.int (Int32.ofNat i))) (Jvm.Term.int (tabA.getD i 0))) := by decide +kernel
theorem own_tab (i : Nat) (h : i < 256) : (Jvm.Cond.eq (Jvm.Term.elem (Jvm.Term.static "java/lang/CharacterDataLatin1" "A" "[I") (Jvm.Term.int (Int32.ofNat i))) (Jvm.Term.int (tabA.getD i 0))) ∈ jdkStatics_1 := List.mem_of_getElem? (own_tab0 i h)
theorem own_tok0 : ∀ c ∈ ([(116 : Int32), (114 : Int32), (117 : Int32), (101 : Int32)] : List Int32), (0 ≤ c.toInt ∧ c.toInt ≤ 127) ∧ ¬ WS c := by unfold WS; decide +kernel
theorem own_tok1 : ∀ c ∈ ([(49 : Int32)] : List Int32), (0 ≤ c.toInt ∧ c.toInt ≤ 127) ∧ ¬ WS c := by unfold WS; decide +kernel
theorem own_tok2 : ∀ c ∈ ([(102 : Int32), (97 : Int32), (108 : Int32), (115 : Int32), (101 : Int32)] : List Int32), (0 ≤ c.toInt ∧ c.toInt ≤ 127) ∧ ¬ WS c := by unfold WS; decide +kernel
theorem own_tok3 : ∀ c ∈ ([(48 : Int32)] : List Int32), (0 ≤ c.toInt ∧ c.toInt ≤ 127) ∧ ¬ WS c := by unfold WS; decide +kernel
theorem own_r10 (x : Int64) : 0 ≤ ((x &&& 15).toInt32 % 10).toInt ∧ ((x &&& 15).toInt32 % 10).toInt ≤ 9 := by
  have a := c_maskL x 15 4 (by decide) (by decide)
  have b := c_l2i (x &&& 15)
  have r := rng32 (x &&& 15).toInt32
  have h := (c_irem (x &&& 15).toInt32 10 10 (by decide)).1 (by omega)
  omega
theorem own_sp {a r : Int32} (h : 0 ≤ r.toInt ∧ r.toInt ≤ 9) (g : 0 ≤ a.toInt ∧ a.toInt ≤ 100) : ((a + r).toUInt32.toUInt16.toUInt32.toInt32).toInt = a.toInt + r.toInt := by
  have s := c_iadd a r
  have q := rng32 (a + r)
  have z := c_i2c (a + r)
  omega
theorem d3_0 : decode method_3_code 0 = .ok (.lload_n 0, 1) := by decide +kernel
theorem d3_1 : decode method_3_code 1 = .ok (.iconst 4, 1) := by decide +kernel
theorem d3_2 : decode method_3_code 2 = .ok (.iload_n 2, 1) := by decide +kernel
theorem d3_3 : decode method_3_code 3 = .ok (.imul, 1) := by decide +kernel
theorem d3_4 : decode method_3_code 4 = .ok (.lushr, 1) := by decide +kernel
theorem d3_5 : decode method_3_code 5 = .ok (.ldc2_w 45, 3) := by decide +kernel
theorem w26 {a0 : Array Value} {Z : State} (hw : ∀ d ∈ tables_1, d.before a0 Z = true) : ((Jvm.Cond.constantLong "com/example/tokenweave/tokenweave/engine/BpmnReaderXmlBooleanPinLaw" (45 : Nat) (15 : Int64))).before a0 Z = true := hw _ (List.mem_of_getElem? (i := 26) rfl)
theorem d3_8 : decode method_3_code 8 = .ok (.land, 1) := by decide +kernel
theorem d3_9 : decode method_3_code 9 = .ok (.l2i, 1) := by decide +kernel
theorem d3_10 : decode method_3_code 10 = .ok (.bipush 10, 2) := by decide +kernel
theorem d3_12 : decode method_3_code 12 = .ok (.irem, 1) := by decide +kernel
theorem d3_13 : decode method_3_code 13 = .ok (.istore_n 3, 1) := by decide +kernel
theorem d3_14 : decode method_3_code 14 = .ok (.iload_n 3, 1) := by decide +kernel
theorem d3_15 : decode method_3_code 15 = .ok (.iconst 5, 1) := by decide +kernel
theorem d3_16 : decode method_3_code 16 = .ok (.if_icmp .ge 11, 3) := by decide +kernel
theorem d3_19 : decode method_3_code 19 = .ok (.bipush 9, 2) := by decide +kernel
theorem d3_21 : decode method_3_code 21 = .ok (.iload_n 3, 1) := by decide +kernel
theorem d3_22 : decode method_3_code 22 = .ok (.iadd, 1) := by decide +kernel
theorem d3_23 : decode method_3_code 23 = .ok (.i2c, 1) := by decide +kernel
theorem d3_24 : decode method_3_code 24 = .ok (.goto 8, 3) := by decide +kernel
theorem d3_32 : decode method_3_code 32 = .ok (.ireturn, 1) := by decide +kernel
theorem d3_27 : decode method_3_code 27 = .ok (.bipush 23, 2) := by decide +kernel
theorem d3_29 : decode method_3_code 29 = .ok (.iload_n 3, 1) := by decide +kernel
theorem d3_30 : decode method_3_code 30 = .ok (.iadd, 1) := by decide +kernel
theorem d3_31 : decode method_3_code 31 = .ok (.i2c, 1) := by decide +kernel
def rr_space : Room := { frames := 0, cells := 0, slots := 0, locals := 0 }
theorem pn27 : plainName "com/example/tokenweave/tokenweave/engine/BpmnReaderXmlBooleanPinLaw" = true := by first | (simp [plainName, overriddenIn]; done) | decide +kernel
set_option maxRecDepth 65536 in
set_option maxHeartbeats 40000000 in
theorem rm_space (l : Launch) (Z : State) (a0 : Array Value) (hw : ∀ d ∈ tables_1, d.before a0 Z = true) (ws : List Jvm.Cond) (wl : Int64) (ii : Int32) (h0 : Heap) (n0 : Nat) (Z0 : n0 ≤ h0.size)  :
    Con l Z (⟨"com/example/tokenweave/tokenweave/engine/BpmnReaderXmlBooleanPinLaw", "space", "(JI)C"⟩ : MethodName) method_3_code 4 (some .char) ws rr_space #[(.long wl), (.int ii)] h0 (fun v h L => ∃ w : Int32, v = some (.int w) ∧ wsr w ∧ Fr n0 L ∧ h = h0) := by
  refine Con.enter (plainFor_of_name pn27) ?_
  intro p e s m below meth c s₁ X0 hx hZ hby hml hret hlk hown hnm e0
  have N0 := Fr.nil n0
  refine Go.cast (g' := (mkF m 0 #[.val (.long wl), .second, .val (.int ii), .unset] [])) (by first | rfl | (simp [entryFrame, mkF, argsToLocals, Value.category]; done)) ?_
  refine Go.st (T' := s₁) (g' := (mkF m 1 #[.val (.long wl), .second, .val (.int ii), .unset] [(.long wl)])) (fun _ zk => XS.lloadN X0.here hx rfl (hb hby d3_0) rfl zk) ?_
  refine Go.st (T' := s₁) (g' := (mkF m 2 #[.val (.long wl), .second, .val (.int ii), .unset] [(.int (4 : Int32)), (.long wl)])) (fun _ zk => XS.iconst X0.here hx rfl (hb hby d3_1) zk) ?_
  refine Go.st (T' := s₁) (g' := (mkF m 3 #[.val (.long wl), .second, .val (.int ii), .unset] [(.int ii), (.int (4 : Int32)), (.long wl)])) (fun _ zk => XS.iloadN X0.here hx rfl (hb hby d3_2) rfl zk) ?_
  refine Go.st (T' := s₁) (g' := (mkF m 4 #[.val (.long wl), .second, .val (.int ii), .unset] [(.int ((4 : Int32) * ii)), (.long wl)])) (fun _ zk => XS.imul X0.here hx rfl (hb hby d3_3) rfl zk) ?_
  refine Go.st (T' := s₁) (g' := (mkF m 5 #[.val (.long wl), .second, .val (.int ii), .unset] [(.long ((wl.toUInt64 >>> (((4 : Int32) * ii) &&& 0x3f).toInt64.toUInt64).toInt64))])) (fun _ zk => XS.lushr X0.here hx rfl (hb hby d3_4) rfl zk) ?_
  refine Go.st (T' := s₁) (g' := (mkF m 8 #[.val (.long wl), .second, .val (.int ii), .unset] [(.long (15 : Int64)), (.long ((wl.toUInt64 >>> (((4 : Int32) * ii) &&& 0x3f).toInt64.toUInt64).toInt64))])) (fun _ zk => X0.ldc2J hx hown (mvT hZ (w26 hw)) rfl (hb hby d3_5) zk) ?_
  refine Go.st (T' := s₁) (g' := (mkF m 9 #[.val (.long wl), .second, .val (.int ii), .unset] [(.long (((wl.toUInt64 >>> (((4 : Int32) * ii) &&& 0x3f).toInt64.toUInt64).toInt64) &&& (15 : Int64)))])) (fun _ zk => XS.land X0.here hx rfl (hb hby d3_8) rfl zk) ?_
  refine Go.st (T' := s₁) (g' := (mkF m 10 #[.val (.long wl), .second, .val (.int ii), .unset] [(.int ((((wl.toUInt64 >>> (((4 : Int32) * ii) &&& 0x3f).toInt64.toUInt64).toInt64) &&& (15 : Int64)).toInt32))])) (fun _ zk => XS.l2i X0.here hx rfl (hb hby d3_9) rfl zk) ?_
  refine Go.st (T' := s₁) (g' := (mkF m 12 #[.val (.long wl), .second, .val (.int ii), .unset] [(.int (10 : Int32)), (.int ((((wl.toUInt64 >>> (((4 : Int32) * ii) &&& 0x3f).toInt64.toUInt64).toInt64) &&& (15 : Int64)).toInt32))])) (fun _ zk => XS.bipush X0.here hx rfl (hb hby d3_10) zk) ?_
  refine Go.st (T' := s₁) (g' := (mkF m 13 #[.val (.long wl), .second, .val (.int ii), .unset] [(.int (((((wl.toUInt64 >>> (((4 : Int32) * ii) &&& 0x3f).toInt64.toUInt64).toInt64) &&& (15 : Int64)).toInt32) % (10 : Int32)))])) (fun _ zk => iremM X0 hx rfl (hb hby d3_12) rfl (by decide) zk) ?_
  have qr := own_r10 ((wl.toUInt64 >>> (((4 : Int32) * ii) &&& 0x3f).toInt64.toUInt64).toInt64)
  obtain ⟨r, hr⟩ : ∃ z, z = (((((wl.toUInt64 >>> (((4 : Int32) * ii) &&& 0x3f).toInt64.toUInt64).toInt64) &&& (15 : Int64)).toInt32) % (10 : Int32)) := ⟨_, rfl⟩
  rw [← hr]
  rw [← hr] at qr
  refine Go.st (T' := s₁) (g' := (mkF m 14 #[.val (.long wl), .second, .val (.int ii), .val (.int r)] [])) (fun _ zk => XS.istoreN X0.here hx rfl (hb hby d3_13) rfl (l' := #[.val (.long wl), .second, .val (.int ii), .val (.int r)]) rfl zk) ?_
  refine Go.st (T' := s₁) (g' := (mkF m 15 #[.val (.long wl), .second, .val (.int ii), .val (.int r)] [(.int r)])) (fun _ zk => XS.iloadN X0.here hx rfl (hb hby d3_14) rfl zk) ?_
  refine Go.st (T' := s₁) (g' := (mkF m 16 #[.val (.long wl), .second, .val (.int ii), .val (.int r)] [(.int (5 : Int32)), (.int r)])) (fun _ zk => XS.iconst X0.here hx rfl (hb hby d3_15) zk) ?_
  by_cases hc16 : r < (5 : Int32)
  · refine Go.st (T' := s₁) (g' := (mkF m 19 #[.val (.long wl), .second, .val (.int ii), .val (.int r)] [])) (fun _ zk => XS.icmpNo X0.here hx rfl (hb hby d3_16) rfl (tlt hc16).2.1 zk) ?_
    refine Go.st (T' := s₁) (g' := (mkF m 21 #[.val (.long wl), .second, .val (.int ii), .val (.int r)] [(.int (9 : Int32))])) (fun _ zk => XS.bipush X0.here hx rfl (hb hby d3_19) zk) ?_
    refine Go.st (T' := s₁) (g' := (mkF m 22 #[.val (.long wl), .second, .val (.int ii), .val (.int r)] [(.int r), (.int (9 : Int32))])) (fun _ zk => XS.iloadN X0.here hx rfl (hb hby d3_21) rfl zk) ?_
    refine Go.st (T' := s₁) (g' := (mkF m 23 #[.val (.long wl), .second, .val (.int ii), .val (.int r)] [(.int ((9 : Int32) + r))])) (fun _ zk => XS.iadd X0.here hx rfl (hb hby d3_22) rfl zk) ?_
    refine Go.st (T' := s₁) (g' := (mkF m 24 #[.val (.long wl), .second, .val (.int ii), .val (.int r)] [(.int (((9 : Int32) + r).toUInt32.toUInt16.toUInt32.toInt32))])) (fun _ zk => XS.i2c X0.here hx rfl (hb hby d3_23) rfl zk) ?_
    refine Go.st (T' := s₁) (g' := (mkF m 32 #[.val (.long wl), .second, .val (.int ii), .val (.int r)] [(.int (((9 : Int32) + r).toUInt32.toUInt16.toUInt32.toInt32))])) (fun _ zk => XS.goto X0.here hx rfl (pc0 := 24) (pc' := 32) rfl (hb hby d3_24) (by decide) (by decide) zk) ?_
    refine Go.retN X0 hx hlk hret (congrArg Value.int nar_c) (by simp) (hb hby d3_32) (by decide) (by decide) e0 ?_
    have s1 := own_sp (a := 9) (r := r) qr (by decide)
    have k1 : (9 : Int32).toInt = 9 := by decide
    have k5 : (5 : Int32).toInt = 5 := by decide
    have z1 := hc16
    rw [Int32.lt_iff_toInt_lt] at z1
    exact ⟨_, rfl, by unfold wsr; omega, N0, rfl⟩
  · refine Go.st (T' := s₁) (g' := (mkF m 27 #[.val (.long wl), .second, .val (.int ii), .val (.int r)] [])) (fun _ zk => XS.icmpYes X0.here hx rfl (pc0 := 16) (pc' := 27) rfl (hb hby d3_16) rfl (flt hc16).2.1 (by decide) (by decide) zk) ?_
    refine Go.st (T' := s₁) (g' := (mkF m 29 #[.val (.long wl), .second, .val (.int ii), .val (.int r)] [(.int (23 : Int32))])) (fun _ zk => XS.bipush X0.here hx rfl (hb hby d3_27) zk) ?_
    refine Go.st (T' := s₁) (g' := (mkF m 30 #[.val (.long wl), .second, .val (.int ii), .val (.int r)] [(.int r), (.int (23 : Int32))])) (fun _ zk => XS.iloadN X0.here hx rfl (hb hby d3_29) rfl zk) ?_
    refine Go.st (T' := s₁) (g' := (mkF m 31 #[.val (.long wl), .second, .val (.int ii), .val (.int r)] [(.int ((23 : Int32) + r))])) (fun _ zk => XS.iadd X0.here hx rfl (hb hby d3_30) rfl zk) ?_
    refine Go.st (T' := s₁) (g' := (mkF m 32 #[.val (.long wl), .second, .val (.int ii), .val (.int r)] [(.int (((23 : Int32) + r).toUInt32.toUInt16.toUInt32.toInt32))])) (fun _ zk => XS.i2c X0.here hx rfl (hb hby d3_31) rfl zk) ?_
    refine Go.retN X0 hx hlk hret (congrArg Value.int nar_c) (by simp) (hb hby d3_32) (by decide) (by decide) e0 ?_
    have s1 := own_sp (a := 23) (r := r) qr (by decide)
    have k1 : (23 : Int32).toInt = 23 := by decide
    have k5 : (5 : Int32).toInt = 5 := by decide
    have z1 := hc16
    rw [Int32.lt_iff_toInt_lt] at z1
    exact ⟨_, rfl, by unfold wsr; omega, N0, rfl⟩
theorem d14_0 : decode prog_17_method_10_code 0 = .ok (.aload_n 2, 1) := by decide +kernel
theorem w75 {a0 : Array Value} {Z : State} (hw : ∀ d ∈ tables_1, d.before a0 Z = true) : ((Jvm.Cond.code ({ cls := "java/lang/String", name := "strip", desc := "()Ljava/lang/String;" } : Jvm.MethodName) jdk_42_method_114_code (2 : Nat) (Option.some (Jvm.ClassFile.FieldType.object "java/lang/String")))).before a0 Z = true := hw _ (List.mem_of_getElem? (i := 75) rfl)
theorem pd28 : parseMethodDescriptor "()Ljava/lang/String;" = some ⟨[], some (.object "java/lang/String")⟩ := by decide +kernel
theorem d14_1 : decode prog_17_method_10_code 1 = .ok (.invokevirtual 284, 3) := by decide +kernel
theorem w74 {a0 : Array Value} {Z : State} (hw : ∀ d ∈ tables_1, d.before a0 Z = true) : ((Jvm.Cond.selects "java/lang/String" ({ cls := "java/lang/String", name := "strip", desc := "()Ljava/lang/String;" } : Jvm.MethodName) ({ cls := "java/lang/String", name := "strip", desc := "()Ljava/lang/String;" } : Jvm.MethodName))).before a0 Z = true := hw _ (List.mem_of_getElem? (i := 74) rfl)
theorem w73 {a0 : Array Value} {Z : State} (hw : ∀ d ∈ tables_1, d.before a0 Z = true) : ((Jvm.Cond.instanceMethod ({ cls := "java/lang/String", name := "strip", desc := "()Ljava/lang/String;" } : Jvm.MethodName))).before a0 Z = true := hw _ (List.mem_of_getElem? (i := 73) rfl)
theorem w71 {a0 : Array Value} {Z : State} (hw : ∀ d ∈ tables_1, d.before a0 Z = true) : ((Jvm.Cond.methodLink "com/example/tokenweave/tokenweave/engine/BpmnReader" (284 : Nat) ({ cls := "java/lang/String", name := "strip", desc := "()Ljava/lang/String;" } : Jvm.MethodName))).before a0 Z = true := hw _ (List.mem_of_getElem? (i := 71) rfl)
theorem w72 {a0 : Array Value} {Z : State} (hw : ∀ d ∈ tables_1, d.before a0 Z = true) : ((Jvm.Cond.declares ({ cls := "java/lang/String", name := "strip", desc := "()Ljava/lang/String;" } : Jvm.MethodName))).before a0 Z = true := hw _ (List.mem_of_getElem? (i := 72) rfl)
theorem d14_4 : decode prog_17_method_10_code 4 = .ok (.astore_n 3, 1) := by decide +kernel
theorem d14_5 : decode prog_17_method_10_code 5 = .ok (.aload_n 3, 1) := by decide +kernel
theorem d14_6 : decode prog_17_method_10_code 6 = .ok (.ldc_w 287, 3) := by decide +kernel
theorem w106 {a0 : Array Value} {Z : State} (hw : ∀ d ∈ tables_1, d.before a0 Z = true) : ((Jvm.Cond.code ({ cls := "java/lang/String", name := "equals", desc := "(Ljava/lang/Object;)Z" } : Jvm.MethodName) jdk_42_method_66_code (3 : Nat) (Option.some Jvm.ClassFile.FieldType.boolean))).before a0 Z = true := hw _ (List.mem_of_getElem? (i := 106) rfl)
theorem pd29 : parseMethodDescriptor "(Ljava/lang/Object;)Z" = some ⟨[(.object "java/lang/Object")], some .boolean⟩ := by decide +kernel
theorem d14_9 : decode prog_17_method_10_code 9 = .ok (.invokevirtual 199, 3) := by decide +kernel
theorem w105 {a0 : Array Value} {Z : State} (hw : ∀ d ∈ tables_1, d.before a0 Z = true) : ((Jvm.Cond.selects "java/lang/String" ({ cls := "java/lang/String", name := "equals", desc := "(Ljava/lang/Object;)Z" } : Jvm.MethodName) ({ cls := "java/lang/String", name := "equals", desc := "(Ljava/lang/Object;)Z" } : Jvm.MethodName))).before a0 Z = true := hw _ (List.mem_of_getElem? (i := 105) rfl)
theorem w104 {a0 : Array Value} {Z : State} (hw : ∀ d ∈ tables_1, d.before a0 Z = true) : ((Jvm.Cond.instanceMethod ({ cls := "java/lang/String", name := "equals", desc := "(Ljava/lang/Object;)Z" } : Jvm.MethodName))).before a0 Z = true := hw _ (List.mem_of_getElem? (i := 104) rfl)
theorem w102 {a0 : Array Value} {Z : State} (hw : ∀ d ∈ tables_1, d.before a0 Z = true) : ((Jvm.Cond.methodLink "com/example/tokenweave/tokenweave/engine/BpmnReader" (199 : Nat) ({ cls := "java/lang/String", name := "equals", desc := "(Ljava/lang/Object;)Z" } : Jvm.MethodName))).before a0 Z = true := hw _ (List.mem_of_getElem? (i := 102) rfl)
theorem w103 {a0 : Array Value} {Z : State} (hw : ∀ d ∈ tables_1, d.before a0 Z = true) : ((Jvm.Cond.declares ({ cls := "java/lang/String", name := "equals", desc := "(Ljava/lang/Object;)Z" } : Jvm.MethodName))).before a0 Z = true := hw _ (List.mem_of_getElem? (i := 103) rfl)
theorem d14_12 : decode prog_17_method_10_code 12 = .ok (.ifCond .ne 13, 3) := by decide +kernel
theorem d14_15 : decode prog_17_method_10_code 15 = .ok (.aload_n 3, 1) := by decide +kernel
theorem d14_16 : decode prog_17_method_10_code 16 = .ok (.ldc_w 289, 3) := by decide +kernel
theorem d14_19 : decode prog_17_method_10_code 19 = .ok (.invokevirtual 199, 3) := by decide +kernel
theorem d14_22 : decode prog_17_method_10_code 22 = .ok (.ifCond .eq 5, 3) := by decide +kernel
theorem d14_27 : decode prog_17_method_10_code 27 = .ok (.aload_n 3, 1) := by decide +kernel
theorem d14_28 : decode prog_17_method_10_code 28 = .ok (.ldc_w 291, 3) := by decide +kernel
theorem d14_31 : decode prog_17_method_10_code 31 = .ok (.invokevirtual 199, 3) := by decide +kernel
theorem d14_34 : decode prog_17_method_10_code 34 = .ok (.ifCond .ne 13, 3) := by decide +kernel
theorem d14_37 : decode prog_17_method_10_code 37 = .ok (.aload_n 3, 1) := by decide +kernel
theorem d14_38 : decode prog_17_method_10_code 38 = .ok (.ldc_w 293, 3) := by decide +kernel
theorem d14_41 : decode prog_17_method_10_code 41 = .ok (.invokevirtual 199, 3) := by decide +kernel
theorem d14_44 : decode prog_17_method_10_code 44 = .ok (.ifCond .eq 5, 3) := by decide +kernel
theorem d14_47 : decode prog_17_method_10_code 47 = .ok (.iconst 0, 1) := by decide +kernel
theorem d14_48 : decode prog_17_method_10_code 48 = .ok (.ireturn, 1) := by decide +kernel
theorem d14_25 : decode prog_17_method_10_code 25 = .ok (.iconst 1, 1) := by decide +kernel
theorem d14_26 : decode prog_17_method_10_code 26 = .ok (.ireturn, 1) := by decide +kernel
def rr_xmlBool : Room := { frames := 6, cells := 10, slots := 71, locals := 92 }
theorem pn30 : plainName "com/example/tokenweave/tokenweave/engine/BpmnReader" = true := by first | (simp [plainName, overriddenIn]; done) | decide +kernel
set_option maxRecDepth 65536 in
set_option maxHeartbeats 40000000 in
theorem rm_xmlBool (l : Launch) (Z : State) (a0 : Array Value) (hw : ∀ d ∈ tables_1, d.before a0 Z = true) (ws : List Jvm.Cond) (ow at_ vv : Addr) (bs tb : List Int32) (p0 m0 : Nat) (zc : Int32) (ci dA : Addr) (kA : ClassId) (h0 : Heap) (n0 : Nat) (Z0 : n0 ≤ h0.size) (O0 : Old Z n0 h0) (S1 : StrB Z h0 vv 0 bs) (lb : bs.length < 2 ^ 31) (hcap : bs.length ≤ 7) (hpm : p0 < m0) (hml0 : m0 ≤ bs.length) (ws1 : ∀ i, i < p0 → WS (((bs.getD i 0) &&& (255 : Int32)).toUInt32.toUInt16.toUInt32.toInt32)) (nw1 : ¬ WS (((bs.getD p0 0) &&& (255 : Int32)).toUInt32.toUInt16.toUInt32.toInt32)) (ws2 : ∀ i, m0 ≤ i → i < bs.length → WS (((bs.getD i 0) &&& (255 : Int32)).toUInt32.toUInt16.toUInt32.toInt32)) (nw2 : ¬ WS (((bs.getD (m0 - 1) 0) &&& (255 : Int32)).toUInt32.toUInt16.toUInt32.toInt32)) (htb : (bs.drop p0).take (m0 - p0) = tb) (htk : (tb = [(116 : Int32), (114 : Int32), (117 : Int32), (101 : Int32)] ∨ tb = [(49 : Int32)] ∨ tb = [(102 : Int32), (97 : Int32), (108 : Int32), (115 : Int32), (101 : Int32)] ∨ tb = [(48 : Int32)])) (CS : Sta Z Z.heap "java/lang/String" "COMPACT_STRINGS" "Z" (.int zc)) (hz : ¬ zc = 0) (SI : Sta Z Z.heap "java/lang/CharacterDataLatin1" "instance" "Ljava/lang/CharacterDataLatin1;" (.ref ci)) (EI : Exa Z Z.heap ci "java/lang/CharacterDataLatin1") (SA : Sta Z Z.heap "java/lang/CharacterDataLatin1" "A" "[I" (.ref dA)) (FA : Arv Z Z.heap dA kA .int (256 : Int32) (tabA.map Value.int) (.int (0 : Int32))) :
    ConS l Z EL0 (⟨"com/example/tokenweave/tokenweave/engine/BpmnReader", "xmlBoolean", "(Ljava/lang/String;Ljava/lang/String;Ljava/lang/String;)Z"⟩ : MethodName) prog_17_method_10_code 4 (some .boolean) ws rr_xmlBool #[(.ref ow), (.ref at_), (.ref vv)] h0 [] (fun v h L => ∃ r : Int32, v = some (.int r) ∧ ((r = 1 ∧ (tb = [(116 : Int32), (114 : Int32), (117 : Int32), (101 : Int32)] ∨ tb = [(49 : Int32)])) ∨ (r = 0 ∧ (tb = [(102 : Int32), (97 : Int32), (108 : Int32), (115 : Int32), (101 : Int32)] ∨ tb = [(48 : Int32)]))) ∧ Fr n0 L ∧ Ext h0 h) := by
  refine ConS.enter (plainFor_of_name pn30) ?_
  intro p e s m below meth c s₁ X0 hx hZ hby hml hret hlk hown hnm e0 hS hA hsf
  have N0 := Fr.nil n0
  have hEL := hEL0 hw
  have hSt := hSt0 hw
  refine Go.cast (g' := (mkF m 0 #[.val (.ref ow), .val (.ref at_), .val (.ref vv), .unset] [])) (by first | rfl | (simp [entryFrame, mkF, argsToLocals, Value.category]; done)) ?_
  refine Go.st (T' := s₁) (g' := (mkF m 1 #[.val (.ref ow), .val (.ref at_), .val (.ref vv), .unset] [(.ref vv)])) (fun _ zk => XS.aloadN X0.here hx rfl (hb hby d14_0) rfl rfl zk) ?_
  refine Go.callV (y := (⟨"java/lang/String", "strip", "()Ljava/lang/String;"⟩ : MethodName)) (z := (⟨"java/lang/String", "strip", "()Ljava/lang/String;"⟩ : MethodName)) (C := "java/lang/String") (a := vv) X0 hx hZ hown e0 (w71 hw) (w72 hw) (w74 hw) (w73 hw) (w1 hw) (w75 hw) (notFace_of_selects (args := #[]) (mvT hZ (w74 hw))) (by decide) S1.exa (argsL := []) (rest := []) (W := 0) (rm_strip l Z a0 hw [] vv bs p0 m0 zc ci dA kA h0 n0 Z0 O0 S1 lb hcap hpm hml0 ws1 nw1 ws2 nw2 CS hz SI EI SA FA) rfl (lenOf pd28 rfl) rfl (by rw [hml]; rfl) rfl (by show 2 * 0 + _ ≤ _; exact Nat.le_of_eq rfl) (by decide) (by decide) (by decide) (by decide) (hb hby d14_1) ?_
  intro v1 T1 h1 L1 X1 e1 q1
  obtain ⟨sv, hv1, Nf1, E1, SN⟩ := q1
  subst hv1
  have N1 := Fr.app N0 Nf1
  rw [htb] at SN
  have Es := SN.exa
  show Go p.tables e below _ T1 (mkF m 4 #[.val (.ref ow), .val (.ref at_), .val (.ref vv), .unset] [(.ref sv)])
  have ltb : tb.length < 2 ^ 31 := by rw [← htb, List.length_take]; omega
  refine Go.st (T' := T1) (g' := (mkF m 5 #[.val (.ref ow), .val (.ref at_), .val (.ref vv), .val (.ref sv)] [])) (fun _ zk => XS.astoreN X1.here hx rfl (hb hby d14_4) rfl rfl (l' := #[.val (.ref ow), .val (.ref at_), .val (.ref vv), .val (.ref sv)]) rfl zk) ?_
  refine Go.st (T' := T1) (g' := (mkF m 6 #[.val (.ref ow), .val (.ref at_), .val (.ref vv), .val (.ref sv)] [(.ref sv)])) (fun _ zk => XS.aloadN X1.here hx rfl (hb hby d14_5) rfl rfl zk) ?_
  have xt3 : Ext h0 h1 := E1
  have cr4 := chrE hA xt3
  obtain ⟨l2, T2, h2, kk2, lt2, kl2, X2, e2, E2, hS, hk2, hZ', hown, A2, C2, F2, V2, la2, lb2, cr2, -, sf2, st2⟩ := ldcCHW X1 hx hZ hown (w101 hw) hSt e1 hS (Nat.le_trans (Nat.zero_le _) E1.1) hEL (by decide) cr4.1 (vs := [(.int (116 : Int32)), (.int (114 : Int32)), (.int (117 : Int32)), (.int (101 : Int32))]) (z := (4 : Int32)) ⟨by decide, by decide⟩ (by decide) (by decide) (g := (mkF m 6 #[.val (.ref ow), .val (.ref at_), .val (.ref vv), .val (.ref sv)] [(.ref sv)])) rfl (hb hby d14_6) (n := 16) (by decide) (by decide) (by decide) (by decide)
  have hZ : Z.Warmed39 T2.vm := hZ'
  have ca5 := cr4.trans cr2
  refine Go.st (T' := T2) (g' := (mkF m 9 #[.val (.ref ow), .val (.ref at_), .val (.ref vv), .val (.ref sv)] [(.ref l2), (.ref sv)])) (fun _ zk => st2 _ zk) ?_
  have SL6 : StrB Z h2 l2 0 [(116 : Int32), (114 : Int32), (117 : Int32), (101 : Int32)] := ⟨_, _, A2, C2, F2, V2⟩
  have xt7 : Ext h1 h2 := E2
  have f8 := SN.ext xt7
  have xt10 : Ext h0 h2 := (xt3.tr E2)
  have f11 := O0.ext xt10
  have f12 := Es.ext xt7
  refine Go.callV (y := (⟨"java/lang/String", "equals", "(Ljava/lang/Object;)Z"⟩ : MethodName)) (z := (⟨"java/lang/String", "equals", "(Ljava/lang/Object;)Z"⟩ : MethodName)) (C := "java/lang/String") (a := sv) X2 hx hZ hown e2 (w102 hw) (w103 hw) (w105 hw) (w104 hw) (w1 hw) (w106 hw) (notFace_of_selects (args := #[]) (mvT hZ (w105 hw))) (by decide) f12 (argsL := [(.ref l2)]) (rest := []) (W := 0) (rm_eqStr l Z a0 hw [] sv l2 0 0 zc tb [(116 : Int32), (114 : Int32), (117 : Int32), (101 : Int32)] h2 n0 (Nat.le_trans Z0 (Nat.le_trans E1.1 E2.1)) f11 f8 SL6 ltb (by decide) CS hz) rfl (lenOf pd29 rfl) rfl (by rw [hml]; rfl) rfl (by show 2 * 0 + _ ≤ _; exact Nat.le_of_eq rfl) (by decide) (by decide) (by decide) (by decide) (hb hby d14_9) ?_
  intro v9 T9 h9 L9 X9 e9 q9
  obtain ⟨r9, hv9, hr9, Nf9, hh9⟩ := q9
  subst hv9
  have E9 : T9.heap = h2 := e9.trans hh9
  have N9 := Fr.app N1 Nf9
  show Go p.tables e below _ T9 (mkF m 12 #[.val (.ref ow), .val (.ref at_), .val (.ref vv), .val (.ref sv)] [(.int r9)])
  by_cases hc12 : r9 = (0 : Int32)
  · refine Go.st (T' := T9) (g' := (mkF m 15 #[.val (.ref ow), .val (.ref at_), .val (.ref vv), .val (.ref sv)] [])) (fun _ zk => XS.ifNo X9.here hx rfl (hb hby d14_12) rfl ((if0 _ _).trans (teq hc12).2) zk) ?_
    refine Go.st (T' := T9) (g' := (mkF m 16 #[.val (.ref ow), .val (.ref at_), .val (.ref vv), .val (.ref sv)] [(.ref sv)])) (fun _ zk => XS.aloadN X9.here hx rfl (hb hby d14_15) rfl rfl zk) ?_
    obtain ⟨l13, T13, h13, kk13, lt13, kl13, X13, e13, E13, hS, hk13, hZ', hown, A13, C13, F13, V13, la13, lb13, cr13, -, sf13, st13⟩ := ldcCHW X9 hx hZ hown (w151 hw) hSt E9 hS hk2 hEL (by decide) ca5.1 (vs := [(.int (49 : Int32))]) (z := (1 : Int32)) ⟨by decide, by decide⟩ (by decide) (by decide) (g := (mkF m 16 #[.val (.ref ow), .val (.ref at_), .val (.ref vv), .val (.ref sv)] [(.ref sv)])) rfl (hb hby d14_16) (n := 4) (by decide) (by decide) (by decide) (by decide)
    have hZ : Z.Warmed39 T13.vm := hZ'
    have ca14 := ca5.trans cr13
    refine Go.st (T' := T13) (g' := (mkF m 19 #[.val (.ref ow), .val (.ref at_), .val (.ref vv), .val (.ref sv)] [(.ref l13), (.ref sv)])) (fun _ zk => st13 _ zk) ?_
    have SL15 : StrB Z h13 l13 0 [(49 : Int32)] := ⟨_, _, A13, C13, F13, V13⟩
    have xt16 : Ext h2 h13 := E13
    have f17 := f8.ext xt16
    have f19 := f11.ext xt16
    have f20 := f12.ext xt16
    refine Go.callV (y := (⟨"java/lang/String", "equals", "(Ljava/lang/Object;)Z"⟩ : MethodName)) (z := (⟨"java/lang/String", "equals", "(Ljava/lang/Object;)Z"⟩ : MethodName)) (C := "java/lang/String") (a := sv) X13 hx hZ hown e13 (w102 hw) (w103 hw) (w105 hw) (w104 hw) (w1 hw) (w106 hw) (notFace_of_selects (args := #[]) (mvT hZ (w105 hw))) (by decide) f20 (argsL := [(.ref l13)]) (rest := []) (W := 0) (rm_eqStr l Z a0 hw [] sv l13 0 0 zc tb [(49 : Int32)] h13 n0 (Nat.le_trans Z0 (Nat.le_trans (Nat.le_trans E1.1 E2.1) E13.1)) f19 f17 SL15 ltb (by decide) CS hz) rfl (lenOf pd29 rfl) rfl (by rw [hml]; rfl) rfl (by show 2 * 0 + _ ≤ _; exact Nat.le_of_eq rfl) (by decide) (by decide) (by decide) (by decide) (hb hby d14_19) ?_
    intro v18 T18 h18 L18 X18 e18 q18
    obtain ⟨r18, hv18, hr18, Nf18, hh18⟩ := q18
    subst hv18
    have E18 : T18.heap = h13 := e18.trans hh18
    have N18 := Fr.app N9 Nf18
    show Go p.tables e below _ T18 (mkF m 22 #[.val (.ref ow), .val (.ref at_), .val (.ref vv), .val (.ref sv)] [(.int r18)])
    by_cases hc22 : r18 = (0 : Int32)
    · refine Go.st (T' := T18) (g' := (mkF m 27 #[.val (.ref ow), .val (.ref at_), .val (.ref vv), .val (.ref sv)] [])) (fun _ zk => XS.ifYes X18.here hx rfl (pc0 := 22) (pc' := 27) rfl (hb hby d14_22) rfl ((if0 _ _).trans (teq hc22).1) (by decide) (by decide) zk) ?_
      refine Go.st (T' := T18) (g' := (mkF m 28 #[.val (.ref ow), .val (.ref at_), .val (.ref vv), .val (.ref sv)] [(.ref sv)])) (fun _ zk => XS.aloadN X18.here hx rfl (hb hby d14_27) rfl rfl zk) ?_
      obtain ⟨l21, T21, h21, kk21, lt21, kl21, X21, e21, E21, hS, hk21, hZ', hown, A21, C21, F21, V21, la21, lb21, cr21, -, sf21, st21⟩ := ldcCHW X18 hx hZ hown (w153 hw) hSt E18 hS hk13 hEL (by decide) ca14.1 (vs := [(.int (102 : Int32)), (.int (97 : Int32)), (.int (108 : Int32)), (.int (115 : Int32)), (.int (101 : Int32))]) (z := (5 : Int32)) ⟨by decide, by decide⟩ (by decide) (by decide) (g := (mkF m 28 #[.val (.ref ow), .val (.ref at_), .val (.ref vv), .val (.ref sv)] [(.ref sv)])) rfl (hb hby d14_28) (n := 20) (by decide) (by decide) (by decide) (by decide)
      have hZ : Z.Warmed39 T21.vm := hZ'
      have ca22 := ca14.trans cr21
      refine Go.st (T' := T21) (g' := (mkF m 31 #[.val (.ref ow), .val (.ref at_), .val (.ref vv), .val (.ref sv)] [(.ref l21), (.ref sv)])) (fun _ zk => st21 _ zk) ?_
      have SL23 : StrB Z h21 l21 0 [(102 : Int32), (97 : Int32), (108 : Int32), (115 : Int32), (101 : Int32)] := ⟨_, _, A21, C21, F21, V21⟩
      have xt24 : Ext h13 h21 := E21
      have f25 := f17.ext xt24
      have f27 := f19.ext xt24
      have f28 := f20.ext xt24
      refine Go.callV (y := (⟨"java/lang/String", "equals", "(Ljava/lang/Object;)Z"⟩ : MethodName)) (z := (⟨"java/lang/String", "equals", "(Ljava/lang/Object;)Z"⟩ : MethodName)) (C := "java/lang/String") (a := sv) X21 hx hZ hown e21 (w102 hw) (w103 hw) (w105 hw) (w104 hw) (w1 hw) (w106 hw) (notFace_of_selects (args := #[]) (mvT hZ (w105 hw))) (by decide) f28 (argsL := [(.ref l21)]) (rest := []) (W := 0) (rm_eqStr l Z a0 hw [] sv l21 0 0 zc tb [(102 : Int32), (97 : Int32), (108 : Int32), (115 : Int32), (101 : Int32)] h21 n0 (Nat.le_trans Z0 (Nat.le_trans (Nat.le_trans (Nat.le_trans E1.1 E2.1) E13.1) E21.1)) f27 f25 SL23 ltb (by decide) CS hz) rfl (lenOf pd29 rfl) rfl (by rw [hml]; rfl) rfl (by show 2 * 0 + _ ≤ _; exact Nat.le_of_eq rfl) (by decide) (by decide) (by decide) (by decide) (hb hby d14_31) ?_
      intro v26 T26 h26 L26 X26 e26 q26
      obtain ⟨r26, hv26, hr26, Nf26, hh26⟩ := q26
      subst hv26
      have E26 : T26.heap = h21 := e26.trans hh26
      have N26 := Fr.app N18 Nf26
      show Go p.tables e below _ T26 (mkF m 34 #[.val (.ref ow), .val (.ref at_), .val (.ref vv), .val (.ref sv)] [(.int r26)])
      by_cases hc34 : r26 = (0 : Int32)
      · refine Go.st (T' := T26) (g' := (mkF m 37 #[.val (.ref ow), .val (.ref at_), .val (.ref vv), .val (.ref sv)] [])) (fun _ zk => XS.ifNo X26.here hx rfl (hb hby d14_34) rfl ((if0 _ _).trans (teq hc34).2) zk) ?_
        refine Go.st (T' := T26) (g' := (mkF m 38 #[.val (.ref ow), .val (.ref at_), .val (.ref vv), .val (.ref sv)] [(.ref sv)])) (fun _ zk => XS.aloadN X26.here hx rfl (hb hby d14_37) rfl rfl zk) ?_
        obtain ⟨l29, T29, h29, kk29, lt29, kl29, X29, e29, E29, hS, hk29, hZ', hown, A29, C29, F29, V29, la29, lb29, cr29, -, sf29, st29⟩ := ldcCHW X26 hx hZ hown (w154 hw) hSt E26 hS hk21 hEL (by decide) ca22.1 (vs := [(.int (48 : Int32))]) (z := (1 : Int32)) ⟨by decide, by decide⟩ (by decide) (by decide) (g := (mkF m 38 #[.val (.ref ow), .val (.ref at_), .val (.ref vv), .val (.ref sv)] [(.ref sv)])) rfl (hb hby d14_38) (n := 4) (by decide) (by decide) (by decide) (by decide)
        have hZ : Z.Warmed39 T29.vm := hZ'
        have ca30 := ca22.trans cr29
        refine Go.st (T' := T29) (g' := (mkF m 41 #[.val (.ref ow), .val (.ref at_), .val (.ref vv), .val (.ref sv)] [(.ref l29), (.ref sv)])) (fun _ zk => st29 _ zk) ?_
        have SL31 : StrB Z h29 l29 0 [(48 : Int32)] := ⟨_, _, A29, C29, F29, V29⟩
        have xt32 : Ext h21 h29 := E29
        have f33 := f25.ext xt32
        have f35 := f27.ext xt32
        have f36 := f28.ext xt32
        refine Go.callV (y := (⟨"java/lang/String", "equals", "(Ljava/lang/Object;)Z"⟩ : MethodName)) (z := (⟨"java/lang/String", "equals", "(Ljava/lang/Object;)Z"⟩ : MethodName)) (C := "java/lang/String") (a := sv) X29 hx hZ hown e29 (w102 hw) (w103 hw) (w105 hw) (w104 hw) (w1 hw) (w106 hw) (notFace_of_selects (args := #[]) (mvT hZ (w105 hw))) (by decide) f36 (argsL := [(.ref l29)]) (rest := []) (W := 0) (rm_eqStr l Z a0 hw [] sv l29 0 0 zc tb [(48 : Int32)] h29 n0 (Nat.le_trans Z0 (Nat.le_trans (Nat.le_trans (Nat.le_trans (Nat.le_trans E1.1 E2.1) E13.1) E21.1) E29.1)) f35 f33 SL31 ltb (by decide) CS hz) rfl (lenOf pd29 rfl) rfl (by rw [hml]; rfl) rfl (by show 2 * 0 + _ ≤ _; exact Nat.le_of_eq rfl) (by decide) (by decide) (by decide) (by decide) (hb hby d14_41) ?_
        intro v34 T34 h34 L34 X34 e34 q34
        obtain ⟨r34, hv34, hr34, Nf34, hh34⟩ := q34
        subst hv34
        have E34 : T34.heap = h29 := e34.trans hh34
        have N34 := Fr.app N26 Nf34
        show Go p.tables e below _ T34 (mkF m 44 #[.val (.ref ow), .val (.ref at_), .val (.ref vv), .val (.ref sv)] [(.int r34)])
        refine Go.st (T' := T34) (g' := (mkF m 47 #[.val (.ref ow), .val (.ref at_), .val (.ref vv), .val (.ref sv)] [])) (fun _ zk => XS.ifNo X34.here hx rfl (hb hby d14_44) rfl ((if0 _ _).trans (feq (fun q => htk.elim (fun z => own_rr0 hr9 hc12 ⟨rfl, z⟩) fun z => z.elim (fun z => own_rr0 hr18 hc22 ⟨rfl, z⟩) fun z => z.elim (fun z => own_rr0 hr26 hc34 ⟨rfl, z⟩) fun z => own_rr0 hr34 q ⟨rfl, z⟩ : ¬ (r34 = (0 : Int32)))).1) zk) ?_
        refine Go.st (T' := T34) (g' := (mkF m 48 #[.val (.ref ow), .val (.ref at_), .val (.ref vv), .val (.ref sv)] [(.int (0 : Int32))])) (fun _ zk => XS.iconst X34.here hx rfl (hb hby d14_47) zk) ?_
        have xt37 : Ext h0 h29 := (((xt10.tr E13).tr E21).tr E29)
        refine Go.retNS X34 hx hlk hS hk29 ca30 hZ hEL hret rfl (by simp) (hb hby d14_48) (by decide) (by decide) E34 ?_
        exact ⟨_, rfl, Or.inr ⟨rfl, (htk.elim (fun z => absurd ⟨rfl, z⟩ (own_rr0 hr9 hc12)) fun z => z.elim (fun z => absurd ⟨rfl, z⟩ (own_rr0 hr18 hc22)) id)⟩, N34, xt37⟩
      · refine Go.st (T' := T26) (g' := (mkF m 47 #[.val (.ref ow), .val (.ref at_), .val (.ref vv), .val (.ref sv)] [])) (fun _ zk => XS.ifYes X26.here hx rfl (pc0 := 34) (pc' := 47) rfl (hb hby d14_34) rfl ((if0 _ _).trans (feq hc34).2) (by decide) (by decide) zk) ?_
        refine Go.st (T' := T26) (g' := (mkF m 48 #[.val (.ref ow), .val (.ref at_), .val (.ref vv), .val (.ref sv)] [(.int (0 : Int32))])) (fun _ zk => XS.iconst X26.here hx rfl (hb hby d14_47) zk) ?_
        have xt38 : Ext h0 h21 := ((xt10.tr E13).tr E21)
        refine Go.retNS X26 hx hlk hS hk21 ca22 hZ hEL hret rfl (by simp) (hb hby d14_48) (by decide) (by decide) E26 ?_
        exact ⟨_, rfl, Or.inr ⟨rfl, Or.inl (own_rr hr26 hc34).2⟩, N26, xt38⟩
    · refine Go.st (T' := T18) (g' := (mkF m 25 #[.val (.ref ow), .val (.ref at_), .val (.ref vv), .val (.ref sv)] [])) (fun _ zk => XS.ifNo X18.here hx rfl (hb hby d14_22) rfl ((if0 _ _).trans (feq hc22).1) zk) ?_
      refine Go.st (T' := T18) (g' := (mkF m 26 #[.val (.ref ow), .val (.ref at_), .val (.ref vv), .val (.ref sv)] [(.int (1 : Int32))])) (fun _ zk => XS.iconst X18.here hx rfl (hb hby d14_25) zk) ?_
      have xt39 : Ext h0 h13 := (xt10.tr E13)
      refine Go.retNS X18 hx hlk hS hk13 ca14 hZ hEL hret rfl (by simp) (hb hby d14_26) (by decide) (by decide) E18 ?_
      exact ⟨_, rfl, Or.inl ⟨rfl, Or.inr (own_rr hr18 hc22).2⟩, N18, xt39⟩
  · refine Go.st (T' := T9) (g' := (mkF m 25 #[.val (.ref ow), .val (.ref at_), .val (.ref vv), .val (.ref sv)] [])) (fun _ zk => XS.ifYes X9.here hx rfl (pc0 := 12) (pc' := 25) rfl (hb hby d14_12) rfl ((if0 _ _).trans (feq hc12).2) (by decide) (by decide) zk) ?_
    refine Go.st (T' := T9) (g' := (mkF m 26 #[.val (.ref ow), .val (.ref at_), .val (.ref vv), .val (.ref sv)] [(.int (1 : Int32))])) (fun _ zk => XS.iconst X9.here hx rfl (hb hby d14_25) zk) ?_
    refine Go.retNS X9 hx hlk hS hk2 ca5 hZ hEL hret rfl (by simp) (hb hby d14_26) (by decide) (by decide) E9 ?_
    exact ⟨_, rfl, Or.inl ⟨rfl, Or.inl (own_rr hr9 hc12).2⟩, N9, xt10⟩
theorem w12 {a0 : Array Value} {Z : State} (hw : ∀ d ∈ tables_1, d.before a0 Z = true) : ((Jvm.Cond.code ({ cls := "java/lang/String", name := "length", desc := "()I" } : Jvm.MethodName) jdk_42_method_54_code (1 : Nat) (Option.some Jvm.ClassFile.FieldType.int))).before a0 Z = true := hw _ (List.mem_of_getElem? (i := 12) rfl)
theorem pd31 : parseMethodDescriptor "()I" = some ⟨[], some .int⟩ := by decide +kernel
theorem w11 {a0 : Array Value} {Z : State} (hw : ∀ d ∈ tables_1, d.before a0 Z = true) : ((Jvm.Cond.selects "java/lang/String" ({ cls := "java/lang/String", name := "length", desc := "()I" } : Jvm.MethodName) ({ cls := "java/lang/String", name := "length", desc := "()I" } : Jvm.MethodName))).before a0 Z = true := hw _ (List.mem_of_getElem? (i := 11) rfl)
theorem w10 {a0 : Array Value} {Z : State} (hw : ∀ d ∈ tables_1, d.before a0 Z = true) : ((Jvm.Cond.instanceMethod ({ cls := "java/lang/String", name := "length", desc := "()I" } : Jvm.MethodName))).before a0 Z = true := hw _ (List.mem_of_getElem? (i := 10) rfl)
theorem w8 {a0 : Array Value} {Z : State} (hw : ∀ d ∈ tables_1, d.before a0 Z = true) : ((Jvm.Cond.methodLink "com/example/tokenweave/tokenweave/engine/BpmnReaderXmlBooleanPinLaw" (15 : Nat) ({ cls := "java/lang/String", name := "length", desc := "()I" } : Jvm.MethodName))).before a0 Z = true := hw _ (List.mem_of_getElem? (i := 8) rfl)
theorem w9 {a0 : Array Value} {Z : State} (hw : ∀ d ∈ tables_1, d.before a0 Z = true) : ((Jvm.Cond.declares ({ cls := "java/lang/String", name := "length", desc := "()I" } : Jvm.MethodName))).before a0 Z = true := hw _ (List.mem_of_getElem? (i := 9) rfl)
theorem w21 {a0 : Array Value} {Z : State} (hw : ∀ d ∈ tables_1, d.before a0 Z = true) : ((Jvm.Cond.arrayClass Jvm.ClassFile.FieldType.char)).before a0 Z = true := hw _ (List.mem_of_getElem? (i := 21) rfl)
theorem w25 {a0 : Array Value} {Z : State} (hw : ∀ d ∈ tables_1, d.before a0 Z = true) : ((Jvm.Cond.code ({ cls := "com/example/tokenweave/tokenweave/engine/BpmnReaderXmlBooleanPinLaw", name := "space", desc := "(JI)C" } : Jvm.MethodName) method_3_code (4 : Nat) (Option.some Jvm.ClassFile.FieldType.char))).before a0 Z = true := hw _ (List.mem_of_getElem? (i := 25) rfl)
theorem w24 {a0 : Array Value} {Z : State} (hw : ∀ d ∈ tables_1, d.before a0 Z = true) : ((Jvm.Cond.initialized "com/example/tokenweave/tokenweave/engine/BpmnReaderXmlBooleanPinLaw")).before a0 Z = true := hw _ (List.mem_of_getElem? (i := 24) rfl)
theorem pd32 : parseMethodDescriptor "(JI)C" = some ⟨[.long, .int], some .char⟩ := by decide +kernel
theorem w22 {a0 : Array Value} {Z : State} (hw : ∀ d ∈ tables_1, d.before a0 Z = true) : ((Jvm.Cond.methodLink "com/example/tokenweave/tokenweave/engine/BpmnReaderXmlBooleanPinLaw" (21 : Nat) ({ cls := "com/example/tokenweave/tokenweave/engine/BpmnReaderXmlBooleanPinLaw", name := "space", desc := "(JI)C" } : Jvm.MethodName))).before a0 Z = true := hw _ (List.mem_of_getElem? (i := 22) rfl)
theorem w23 {a0 : Array Value} {Z : State} (hw : ∀ d ∈ tables_1, d.before a0 Z = true) : ((Jvm.Cond.static ({ cls := "com/example/tokenweave/tokenweave/engine/BpmnReaderXmlBooleanPinLaw", name := "space", desc := "(JI)C" } : Jvm.MethodName))).before a0 Z = true := hw _ (List.mem_of_getElem? (i := 23) rfl)
theorem w27 {a0 : Array Value} {Z : State} (hw : ∀ d ∈ tables_1, d.before a0 Z = true) : ((Jvm.Cond.constant "com/example/tokenweave/tokenweave/engine/BpmnReaderXmlBooleanPinLaw" (27 : Nat) (2147483647 : Int32))).before a0 Z = true := hw _ (List.mem_of_getElem? (i := 27) rfl)
theorem w32 {a0 : Array Value} {Z : State} (hw : ∀ d ∈ tables_1, d.before a0 Z = true) : ((Jvm.Cond.code ({ cls := "java/lang/String", name := "charAt", desc := "(I)C" } : Jvm.MethodName) jdk_42_method_56_code (2 : Nat) (Option.some Jvm.ClassFile.FieldType.char))).before a0 Z = true := hw _ (List.mem_of_getElem? (i := 32) rfl)
theorem pd33 : parseMethodDescriptor "(I)C" = some ⟨[.int], some .char⟩ := by decide +kernel
theorem w31 {a0 : Array Value} {Z : State} (hw : ∀ d ∈ tables_1, d.before a0 Z = true) : ((Jvm.Cond.selects "java/lang/String" ({ cls := "java/lang/String", name := "charAt", desc := "(I)C" } : Jvm.MethodName) ({ cls := "java/lang/String", name := "charAt", desc := "(I)C" } : Jvm.MethodName))).before a0 Z = true := hw _ (List.mem_of_getElem? (i := 31) rfl)
theorem w30 {a0 : Array Value} {Z : State} (hw : ∀ d ∈ tables_1, d.before a0 Z = true) : ((Jvm.Cond.instanceMethod ({ cls := "java/lang/String", name := "charAt", desc := "(I)C" } : Jvm.MethodName))).before a0 Z = true := hw _ (List.mem_of_getElem? (i := 30) rfl)
theorem w28 {a0 : Array Value} {Z : State} (hw : ∀ d ∈ tables_1, d.before a0 Z = true) : ((Jvm.Cond.methodLink "com/example/tokenweave/tokenweave/engine/BpmnReaderXmlBooleanPinLaw" (28 : Nat) ({ cls := "java/lang/String", name := "charAt", desc := "(I)C" } : Jvm.MethodName))).before a0 Z = true := hw _ (List.mem_of_getElem? (i := 28) rfl)
theorem w29 {a0 : Array Value} {Z : State} (hw : ∀ d ∈ tables_1, d.before a0 Z = true) : ((Jvm.Cond.declares ({ cls := "java/lang/String", name := "charAt", desc := "(I)C" } : Jvm.MethodName))).before a0 Z = true := hw _ (List.mem_of_getElem? (i := 29) rfl)
theorem w52 {a0 : Array Value} {Z : State} (hw : ∀ d ∈ tables_1, d.before a0 Z = true) : ((Jvm.Cond.code ({ cls := "java/lang/String", name := "valueOf", desc := "(C)Ljava/lang/String;" } : Jvm.MethodName) jdk_42_method_139_code (1 : Nat) (Option.some (Jvm.ClassFile.FieldType.object "java/lang/String")))).before a0 Z = true := hw _ (List.mem_of_getElem? (i := 52) rfl)
theorem pd34 : parseMethodDescriptor "(C)Ljava/lang/String;" = some ⟨[.char], some (.object "java/lang/String")⟩ := by decide +kernel
theorem w50 {a0 : Array Value} {Z : State} (hw : ∀ d ∈ tables_1, d.before a0 Z = true) : ((Jvm.Cond.methodLink "com/example/tokenweave/tokenweave/engine/BpmnReaderXmlBooleanPinLaw" (35 : Nat) ({ cls := "java/lang/String", name := "valueOf", desc := "(C)Ljava/lang/String;" } : Jvm.MethodName))).before a0 Z = true := hw _ (List.mem_of_getElem? (i := 50) rfl)
theorem w51 {a0 : Array Value} {Z : State} (hw : ∀ d ∈ tables_1, d.before a0 Z = true) : ((Jvm.Cond.static ({ cls := "java/lang/String", name := "valueOf", desc := "(C)Ljava/lang/String;" } : Jvm.MethodName))).before a0 Z = true := hw _ (List.mem_of_getElem? (i := 51) rfl)
theorem w70 {a0 : Array Value} {Z : State} (hw : ∀ d ∈ tables_1, d.before a0 Z = true) : ((Jvm.Cond.code ({ cls := "com/example/tokenweave/tokenweave/engine/BpmnReader", name := "xmlBoolean", desc := "(Ljava/lang/String;Ljava/lang/String;Ljava/lang/String;)Z" } : Jvm.MethodName) prog_17_method_10_code (4 : Nat) (Option.some Jvm.ClassFile.FieldType.boolean))).before a0 Z = true := hw _ (List.mem_of_getElem? (i := 70) rfl)
theorem w69 {a0 : Array Value} {Z : State} (hw : ∀ d ∈ tables_1, d.before a0 Z = true) : ((Jvm.Cond.initialized "com/example/tokenweave/tokenweave/engine/BpmnReader")).before a0 Z = true := hw _ (List.mem_of_getElem? (i := 69) rfl)
theorem pd35 : parseMethodDescriptor "(Ljava/lang/String;Ljava/lang/String;Ljava/lang/String;)Z" = some ⟨[(.object "java/lang/String"), (.object "java/lang/String"), (.object "java/lang/String")], some .boolean⟩ := by decide +kernel
theorem w67 {a0 : Array Value} {Z : State} (hw : ∀ d ∈ tables_1, d.before a0 Z = true) : ((Jvm.Cond.methodLink "com/example/tokenweave/tokenweave/engine/BpmnReaderXmlBooleanPinLaw" (39 : Nat) ({ cls := "com/example/tokenweave/tokenweave/engine/BpmnReader", name := "xmlBoolean", desc := "(Ljava/lang/String;Ljava/lang/String;Ljava/lang/String;)Z" } : Jvm.MethodName))).before a0 Z = true := hw _ (List.mem_of_getElem? (i := 67) rfl)
theorem w68 {a0 : Array Value} {Z : State} (hw : ∀ d ∈ tables_1, d.before a0 Z = true) : ((Jvm.Cond.static ({ cls := "com/example/tokenweave/tokenweave/engine/BpmnReader", name := "xmlBoolean", desc := "(Ljava/lang/String;Ljava/lang/String;Ljava/lang/String;)Z" } : Jvm.MethodName))).before a0 Z = true := hw _ (List.mem_of_getElem? (i := 68) rfl)
theorem w108 {a0 : Array Value} {Z : State} (hw : ∀ d ∈ tables_1, d.before a0 Z = true) : ((Jvm.Cond.classLink "com/example/tokenweave/tokenweave/engine/BpmnReaderXmlBooleanPinLaw" (16 : Nat) "java/lang/String")).before a0 Z = true := hw _ (List.mem_of_getElem? (i := 108) rfl)
theorem w111 {a0 : Array Value} {Z : State} (hw : ∀ d ∈ tables_1, d.before a0 Z = true) : ((Jvm.Cond.code ({ cls := "java/lang/String", name := "<init>", desc := "([C)V" } : Jvm.MethodName) jdk_42_method_3_code (2 : Nat) (Option.none : Option Jvm.ClassFile.FieldType))).before a0 Z = true := hw _ (List.mem_of_getElem? (i := 111) rfl)
theorem pd36 : parseMethodDescriptor "([C)V" = some ⟨[(.array .char)], none⟩ := by decide +kernel
theorem w109 {a0 : Array Value} {Z : State} (hw : ∀ d ∈ tables_1, d.before a0 Z = true) : ((Jvm.Cond.methodLink "com/example/tokenweave/tokenweave/engine/BpmnReaderXmlBooleanPinLaw" (32 : Nat) ({ cls := "java/lang/String", name := "<init>", desc := "([C)V" } : Jvm.MethodName))).before a0 Z = true := hw _ (List.mem_of_getElem? (i := 109) rfl)
theorem w110 {a0 : Array Value} {Z : State} (hw : ∀ d ∈ tables_1, d.before a0 Z = true) : ((Jvm.Cond.instanceMethod ({ cls := "java/lang/String", name := "<init>", desc := "([C)V" } : Jvm.MethodName))).before a0 Z = true := hw _ (List.mem_of_getElem? (i := 110) rfl)
set_option maxRecDepth 65536 in
set_option maxHeartbeats 40000000 in
theorem rm_law (l : Launch) (Z : State) (a0 : Array Value) (hw : ∀ d ∈ tables_1, d.before a0 Z = true) (ws : List Jvm.Cond) (x0 x1 : Int32) (x2 : Int64) (x3 x4 zc : Int32) (fm : Value) (ci dA : Addr) (kA : ClassId) (h0 : Heap) (n0 : Nat) (Z0 : n0 ≤ h0.size) (O0 : Old Z n0 h0) (CS : Sta Z Z.heap "java/lang/String" "COMPACT_STRINGS" "Z" (.int zc)) (hz : ¬ zc = 0) (FM : Sta Z Z.heap "jdk/internal/util/Preconditions" "SIOOBE_FORMATTER" "Ljava/util/function/BiFunction;" fm) (rf : fm.isRef = true) (SI : Sta Z Z.heap "java/lang/CharacterDataLatin1" "instance" "Ljava/lang/CharacterDataLatin1;" (.ref ci)) (EI : Exa Z Z.heap ci "java/lang/CharacterDataLatin1") (SA : Sta Z Z.heap "java/lang/CharacterDataLatin1" "A" "[I" (.ref dA)) (FA : Arv Z Z.heap dA kA .int (256 : Int32) (tabA.map Value.int) (.int (0 : Int32))) :
    ConS l Z EL0 x code maxLocals ret ws room_1 #[(.int x0), (.int x1), (.long x2), (.int x3), (.int x4)] h0 [] (fun v h L => v = some (.int 1) ∧ Fr n0 L) := by
  refine ConS.enter (plainFor_of_name pn27) ?_
  intro p e s m below meth c s₁ X0 hx hZ hby hml hret hlk hown hnm e0 hS hA hsf
  have N0 := Fr.nil n0
  have hEL := hEL0 hw
  have hSt := hSt0 hw
  refine Go.cast (g' := (mkF m 0 #[.val (.int x0), .val (.int x1), .val (.long x2), .second, .val (.int x3), .val (.int x4), .unset, .unset, .unset, .unset, .unset, .unset, .unset, .unset, .unset] [])) (by first | rfl | (simp [entryFrame, mkF, argsToLocals, Value.category, maxLocals]; done)) ?_
  refine Go.st (T' := s₁) (g' := (mkF m 1 #[.val (.int x0), .val (.int x1), .val (.long x2), .second, .val (.int x3), .val (.int x4), .unset, .unset, .unset, .unset, .unset, .unset, .unset, .unset, .unset] [(.int x0)])) (fun _ zk => XS.iloadN X0.here hx rfl (hb hby at_0) rfl zk) ?_
  refine Go.st (T' := s₁) (g' := (mkF m 2 #[.val (.int x0), .val (.int x1), .val (.long x2), .second, .val (.int x3), .val (.int x4), .unset, .unset, .unset, .unset, .unset, .unset, .unset, .unset, .unset] [(.int (3 : Int32)), (.int x0)])) (fun _ zk => XS.iconst X0.here hx rfl (hb hby at_1) zk) ?_
  refine Go.st (T' := s₁) (g' := (mkF m 3 #[.val (.int x0), .val (.int x1), .val (.long x2), .second, .val (.int x3), .val (.int x4), .unset, .unset, .unset, .unset, .unset, .unset, .unset, .unset, .unset] [(.int (x0 &&& (3 : Int32)))])) (fun _ zk => XS.iand X0.here hx rfl (hb hby at_2) rfl zk) ?_
  obtain ⟨kd, hkd⟩ : ∃ z, z = (x0 &&& (3 : Int32)) := ⟨_, rfl⟩
  rw [← hkd]
  have qkd := own_m4 x0
  rw [← hkd] at qkd
  refine Go.st (T' := s₁) (g' := (mkF m 5 #[.val (.int x0), .val (.int x1), .val (.long x2), .second, .val (.int x3), .val (.int x4), .val (.int kd), .unset, .unset, .unset, .unset, .unset, .unset, .unset, .unset] [])) (fun _ zk => XS.istore X0.here hx rfl (hb hby at_3) rfl (l' := #[.val (.int x0), .val (.int x1), .val (.long x2), .second, .val (.int x3), .val (.int x4), .val (.int kd), .unset, .unset, .unset, .unset, .unset, .unset, .unset, .unset]) rfl zk) ?_
  rcases own_4 qkd with rfl | rfl | rfl | rfl
  · refine Go.st (T' := s₁) (g' := (mkF m 7 #[.val (.int x0), .val (.int x1), .val (.long x2), .second, .val (.int x3), .val (.int x4), .val (.int (0 : Int32)), .unset, .unset, .unset, .unset, .unset, .unset, .unset, .unset] [(.int (0 : Int32))])) (fun _ zk => XS.iload X0.here hx rfl (hb hby at_5) rfl zk) ?_
    refine Go.st (T' := s₁) (g' := (mkF m 10 #[.val (.int x0), .val (.int x1), .val (.long x2), .second, .val (.int x3), .val (.int x4), .val (.int (0 : Int32)), .unset, .unset, .unset, .unset, .unset, .unset, .unset, .unset] [])) (fun _ zk => XS.ifNo X0.here hx rfl (hb hby at_7) rfl ((if0 _ _).trans (teq (rfl : (0 : Int32) = (0 : Int32))).2) zk) ?_
    obtain ⟨l1, T1, h1, kk1, lt1, kl1, X1, e1, E1, hS, hk1, hZ', hown, A1, C1, F1, V1, la1, lb1, cr1, -, sf1, st1⟩ := ldcCH X0 hx hZ hown (w0 hw) hSt e0 hS (Nat.zero_le _) hEL (by decide) hA.1 (vs := [(.int (116 : Int32)), (.int (114 : Int32)), (.int (117 : Int32)), (.int (101 : Int32))]) (z := (4 : Int32)) ⟨by decide, by decide⟩ (by decide) (by decide) (g := (mkF m 10 #[.val (.int x0), .val (.int x1), .val (.long x2), .second, .val (.int x3), .val (.int x4), .val (.int (0 : Int32)), .unset, .unset, .unset, .unset, .unset, .unset, .unset, .unset] [])) rfl (hb hby at_10) (n := 16) (by decide) (by decide) (by decide) (by decide)
    have hZ : Z.Warmed39 T1.vm := hZ'
    have ca2 := hA.trans cr1
    refine Go.st (T' := T1) (g' := (mkF m 12 #[.val (.int x0), .val (.int x1), .val (.long x2), .second, .val (.int x3), .val (.int x4), .val (.int (0 : Int32)), .unset, .unset, .unset, .unset, .unset, .unset, .unset, .unset] [(.ref l1)])) (fun _ zk => st1 _ zk) ?_
    refine Go.st (T' := T1) (g' := (mkF m 39 #[.val (.int x0), .val (.int x1), .val (.long x2), .second, .val (.int x3), .val (.int x4), .val (.int (0 : Int32)), .unset, .unset, .unset, .unset, .unset, .unset, .unset, .unset] [(.ref l1)])) (fun _ zk => XS.goto X1.here hx rfl (pc0 := 12) (pc' := 39) rfl (hb hby at_12) (by decide) (by decide) zk) ?_
    have SL : StrB Z h1 l1 0 [(116 : Int32), (114 : Int32), (117 : Int32), (101 : Int32)] := ⟨_, _, A1, C1, F1, V1⟩
    refine Go.st (T' := T1) (g' := (mkF m 41 #[.val (.int x0), .val (.int x1), .val (.long x2), .second, .val (.int x3), .val (.int x4), .val (.int (0 : Int32)), .val (.ref l1), .unset, .unset, .unset, .unset, .unset, .unset, .unset] [])) (fun _ zk => XS.astore X1.here hx rfl (hb hby at_39) rfl rfl (l' := #[.val (.int x0), .val (.int x1), .val (.long x2), .second, .val (.int x3), .val (.int x4), .val (.int (0 : Int32)), .val (.ref l1), .unset, .unset, .unset, .unset, .unset, .unset, .unset]) rfl zk) ?_
    refine Go.st (T' := T1) (g' := (mkF m 43 #[.val (.int x0), .val (.int x1), .val (.long x2), .second, .val (.int x3), .val (.int x4), .val (.int (0 : Int32)), .val (.ref l1), .unset, .unset, .unset, .unset, .unset, .unset, .unset] [(.int (0 : Int32))])) (fun _ zk => XS.iload X1.here hx rfl (hb hby at_41) rfl zk) ?_
    refine Go.st (T' := T1) (g' := (mkF m 44 #[.val (.int x0), .val (.int x1), .val (.long x2), .second, .val (.int x3), .val (.int x4), .val (.int (0 : Int32)), .val (.ref l1), .unset, .unset, .unset, .unset, .unset, .unset, .unset] [(.int (2 : Int32)), (.int (0 : Int32))])) (fun _ zk => XS.iconst X1.here hx rfl (hb hby at_43) zk) ?_
    refine Go.st (T' := T1) (g' := (mkF m 47 #[.val (.int x0), .val (.int x1), .val (.long x2), .second, .val (.int x3), .val (.int x4), .val (.int (0 : Int32)), .val (.ref l1), .unset, .unset, .unset, .unset, .unset, .unset, .unset] [])) (fun _ zk => XS.icmpNo X1.here hx rfl (hb hby at_44) rfl (tlt ((by decide) : (0 : Int32) < (2 : Int32))).2.1 zk) ?_
    refine Go.st (T' := T1) (g' := (mkF m 48 #[.val (.int x0), .val (.int x1), .val (.long x2), .second, .val (.int x3), .val (.int x4), .val (.int (0 : Int32)), .val (.ref l1), .unset, .unset, .unset, .unset, .unset, .unset, .unset] [(.int (1 : Int32))])) (fun _ zk => XS.iconst X1.here hx rfl (hb hby at_47) zk) ?_
    refine Go.st (T' := T1) (g' := (mkF m 52 #[.val (.int x0), .val (.int x1), .val (.long x2), .second, .val (.int x3), .val (.int x4), .val (.int (0 : Int32)), .val (.ref l1), .unset, .unset, .unset, .unset, .unset, .unset, .unset] [(.int (1 : Int32))])) (fun _ zk => XS.goto X1.here hx rfl (pc0 := 48) (pc' := 52) rfl (hb hby at_48) (by decide) (by decide) zk) ?_
    refine Go.st (T' := T1) (g' := (mkF m 54 #[.val (.int x0), .val (.int x1), .val (.long x2), .second, .val (.int x3), .val (.int x4), .val (.int (0 : Int32)), .val (.ref l1), .val (.int (1 : Int32)), .unset, .unset, .unset, .unset, .unset, .unset] [])) (fun _ zk => XS.istore X1.here hx rfl (hb hby at_52) rfl (l' := #[.val (.int x0), .val (.int x1), .val (.long x2), .second, .val (.int x3), .val (.int x4), .val (.int (0 : Int32)), .val (.ref l1), .val (.int (1 : Int32)), .unset, .unset, .unset, .unset, .unset, .unset]) rfl zk) ?_
    refine Go.st (T' := T1) (g' := (mkF m 56 #[.val (.int x0), .val (.int x1), .val (.long x2), .second, .val (.int x3), .val (.int x4), .val (.int (0 : Int32)), .val (.ref l1), .val (.int (1 : Int32)), .unset, .unset, .unset, .unset, .unset, .unset] [(.ref l1)])) (fun _ zk => XS.aload X1.here hx rfl (hb hby at_54) rfl rfl zk) ?_
    have xt4 : Ext h0 h1 := E1
    have f5 := O0.ext xt4
    refine Go.callV (y := (⟨"java/lang/String", "length", "()I"⟩ : MethodName)) (z := (⟨"java/lang/String", "length", "()I"⟩ : MethodName)) (C := "java/lang/String") (a := l1) X1 hx hZ hown e1 (w8 hw) (w9 hw) (w11 hw) (w10 hw) (w1 hw) (w12 hw) (notFace_of_selects (args := #[]) (mvT hZ (w11 hw))) (by decide) A1 (argsL := []) (rest := []) (W := 0) (rm_lengthG l Z a0 hw [] l1 [(116 : Int32), (114 : Int32), (117 : Int32), (101 : Int32)] zc h1 n0 (Nat.le_trans Z0 E1.1) f5 SL CS hz) rfl (lenOf pd31 rfl) rfl (by rw [hml]; rfl) rfl (by show 2 * 0 + _ ≤ _; exact Nat.le_of_eq rfl) (by decide) (by decide) (by decide) (by decide) (hb hby at_56) ?_
    intro v3 T3 h3 L3 X3 e3 q3
    obtain ⟨hv3, Nf3, hh3⟩ := q3
    subst hv3
    have E3 : T3.heap = h1 := e3.trans hh3
    have N3 := Fr.app N0 Nf3
    show Go p.tables e below _ T3 (mkF m 59 #[.val (.int x0), .val (.int x1), .val (.long x2), .second, .val (.int x3), .val (.int x4), .val (.int (0 : Int32)), .val (.ref l1), .val (.int (1 : Int32)), .unset, .unset, .unset, .unset, .unset, .unset] [(.int (4 : Int32))])
    refine Go.st (T' := T3) (g' := (mkF m 61 #[.val (.int x0), .val (.int x1), .val (.long x2), .second, .val (.int x3), .val (.int x4), .val (.int (0 : Int32)), .val (.ref l1), .val (.int (1 : Int32)), .val (.int (4 : Int32)), .unset, .unset, .unset, .unset, .unset] [])) (fun _ zk => XS.istore X3.here hx rfl (hb hby at_59) rfl (l' := #[.val (.int x0), .val (.int x1), .val (.long x2), .second, .val (.int x3), .val (.int x4), .val (.int (0 : Int32)), .val (.ref l1), .val (.int (1 : Int32)), .val (.int (4 : Int32)), .unset, .unset, .unset, .unset, .unset]) rfl zk) ?_
    refine Go.st (T' := T3) (g' := (mkF m 63 #[.val (.int x0), .val (.int x1), .val (.long x2), .second, .val (.int x3), .val (.int x4), .val (.int (0 : Int32)), .val (.ref l1), .val (.int (1 : Int32)), .val (.int (4 : Int32)), .unset, .unset, .unset, .unset, .unset] [(.int (7 : Int32))])) (fun _ zk => XS.bipush X3.here hx rfl (hb hby at_61) zk) ?_
    obtain ⟨T6, h6, k6, X6, e6, E6, A6, st6⟩ := newP (aty := .char) X3 hx hZ (w21 hw) E3 (g := (mkF m 63 #[.val (.int x0), .val (.int x1), .val (.long x2), .second, .val (.int x3), .val (.int x4), .val (.int (0 : Int32)), .val (.ref l1), .val (.int (1 : Int32)), .val (.int (4 : Int32)), .unset, .unset, .unset, .unset, .unset] [(.int (7 : Int32))])) rfl (hb hby at_63) rfl (by decide) (cap := 7) (by decide) (by decide) (by decide) (by decide)
    obtain ⟨b6, g6⟩ : ∃ z, z = h1.size := ⟨_, rfl⟩
    rw [← g6] at A6 st6
    have V6 : Arv Z h6 b6 k6 .char (7 : Int32) [(.int (0 : Int32)), (.int (0 : Int32)), (.int (0 : Int32)), (.int (0 : Int32)), (.int (0 : Int32)), (.int (0 : Int32)), (.int (0 : Int32))] (.int (0 : Int32)) := (Arv.new A6 (by decide)).pad (pad_rep [] (.int (0 : Int32)) 7)
    refine Go.st (T' := T6) (g' := (mkF m 65 #[.val (.int x0), .val (.int x1), .val (.long x2), .second, .val (.int x3), .val (.int x4), .val (.int (0 : Int32)), .val (.ref l1), .val (.int (1 : Int32)), .val (.int (4 : Int32)), .unset, .unset, .unset, .unset, .unset] [(.ref b6)])) (fun _ zk => st6 _ zk) ?_
    refine Go.st (T' := T6) (g' := (mkF m 67 #[.val (.int x0), .val (.int x1), .val (.long x2), .second, .val (.int x3), .val (.int x4), .val (.int (0 : Int32)), .val (.ref l1), .val (.int (1 : Int32)), .val (.int (4 : Int32)), .val (.ref b6), .unset, .unset, .unset, .unset] [])) (fun _ zk => XS.astore X6.here hx rfl (hb hby at_65) rfl rfl (l' := #[.val (.int x0), .val (.int x1), .val (.long x2), .second, .val (.int x3), .val (.int x4), .val (.int (0 : Int32)), .val (.ref l1), .val (.int (1 : Int32)), .val (.int (4 : Int32)), .val (.ref b6), .unset, .unset, .unset, .unset]) rfl zk) ?_
    refine Go.st (T' := T6) (g' := (mkF m 69 #[.val (.int x0), .val (.int x1), .val (.long x2), .second, .val (.int x3), .val (.int x4), .val (.int (0 : Int32)), .val (.ref l1), .val (.int (1 : Int32)), .val (.int (4 : Int32)), .val (.ref b6), .unset, .unset, .unset, .unset] [(.ref b6)])) (fun _ zk => XS.aload X6.here hx rfl (hb hby at_67) rfl rfl zk) ?_
    refine Go.st (T' := T6) (g' := (mkF m 70 #[.val (.int x0), .val (.int x1), .val (.long x2), .second, .val (.int x3), .val (.int x4), .val (.int (0 : Int32)), .val (.ref l1), .val (.int (1 : Int32)), .val (.int (4 : Int32)), .val (.ref b6), .unset, .unset, .unset, .unset] [(.int (0 : Int32)), (.ref b6)])) (fun _ zk => XS.iconst X6.here hx rfl (hb hby at_69) zk) ?_
    refine Go.st (T' := T6) (g' := (mkF m 71 #[.val (.int x0), .val (.int x1), .val (.long x2), .second, .val (.int x3), .val (.int x4), .val (.int (0 : Int32)), .val (.ref l1), .val (.int (1 : Int32)), .val (.int (4 : Int32)), .val (.ref b6), .unset, .unset, .unset, .unset] [(.long x2), (.int (0 : Int32)), (.ref b6)])) (fun _ zk => XS.lloadN X6.here hx rfl (hb hby at_70) rfl zk) ?_
    refine Go.st (T' := T6) (g' := (mkF m 72 #[.val (.int x0), .val (.int x1), .val (.long x2), .second, .val (.int x3), .val (.int x4), .val (.int (0 : Int32)), .val (.ref l1), .val (.int (1 : Int32)), .val (.int (4 : Int32)), .val (.ref b6), .unset, .unset, .unset, .unset] [(.int (0 : Int32)), (.long x2), (.int (0 : Int32)), (.ref b6)])) (fun _ zk => XS.iconst X6.here hx rfl (hb hby at_71) zk) ?_
    refine Go.callSt (y := (⟨"com/example/tokenweave/tokenweave/engine/BpmnReaderXmlBooleanPinLaw", "space", "(JI)C"⟩ : MethodName)) X6 hx hZ hown e6 (w22 hw) (w23 hw) (w24 hw) (w25 hw) (by decide) (argsL := [(.long x2), (.int (0 : Int32))]) (rest := [(.int (0 : Int32)), (.ref b6)]) (W := 2) (rm_space l Z a0 hw [] x2 (0 : Int32) h6 n0 (Nat.le_trans Z0 (Nat.le_trans E1.1 E6.1)) ) rfl (lenOf pd32 rfl) rfl (by rw [hml]; rfl) rfl (by show 2 * 0 + _ ≤ _; exact Nat.le_of_eq rfl) (by decide) (by decide) (by decide) (by decide) (hb hby at_72) ?_
    intro v7 T7 h7 L7 X7 e7 q7
    obtain ⟨sp0, hv7, qw0, Nf7, hh7⟩ := q7
    subst hv7
    have E7 : T7.heap = h6 := e7.trans hh7
    have N7 := Fr.app N3 Nf7
    show Go p.tables e below _ T7 (mkF m 75 #[.val (.int x0), .val (.int x1), .val (.long x2), .second, .val (.int x3), .val (.int x4), .val (.int (0 : Int32)), .val (.ref l1), .val (.int (1 : Int32)), .val (.int (4 : Int32)), .val (.ref b6), .unset, .unset, .unset, .unset] [(.int sp0), (.int (0 : Int32)), (.ref b6)])
    obtain ⟨T8, h8, X8, e8, W8, V8, st8⟩ := stCV X7 hx hZ E7 V6 (j := (0 : Int32)) (i := 0) (by decide) rfl (Nat.le_of_ble_eq_true rfl) (g := (mkF m 75 #[.val (.int x0), .val (.int x1), .val (.long x2), .second, .val (.int x3), .val (.int x4), .val (.int (0 : Int32)), .val (.ref l1), .val (.int (1 : Int32)), .val (.int (4 : Int32)), .val (.ref b6), .unset, .unset, .unset, .unset] [(.int sp0), (.int (0 : Int32)), (.ref b6)])) rfl rfl (hb hby at_75)
    rw [nar_cid (x := sp0) (by unfold wsr at qw0; omega)] at V8
    have V8' : Arv Z h8 b6 k6 .char (7 : Int32) [(.int sp0), (.int (0 : Int32)), (.int (0 : Int32)), (.int (0 : Int32)), (.int (0 : Int32)), (.int (0 : Int32)), (.int (0 : Int32))] (.int (0 : Int32)) := V8
    have N8 := Fr.snoc X8 N7 (Nat.le_trans Z0 (Nat.le_trans E1.1 (Nat.le_of_eq g6.symm)))
    refine Go.st (T' := T8) (g' := (mkF m 76 #[.val (.int x0), .val (.int x1), .val (.long x2), .second, .val (.int x3), .val (.int x4), .val (.int (0 : Int32)), .val (.ref l1), .val (.int (1 : Int32)), .val (.int (4 : Int32)), .val (.ref b6), .unset, .unset, .unset, .unset] [])) (fun _ zk => st8 _ zk) ?_
    refine Go.st (T' := T8) (g' := (mkF m 78 #[.val (.int x0), .val (.int x1), .val (.long x2), .second, .val (.int x3), .val (.int x4), .val (.int (0 : Int32)), .val (.ref l1), .val (.int (1 : Int32)), .val (.int (4 : Int32)), .val (.ref b6), .unset, .unset, .unset, .unset] [(.ref b6)])) (fun _ zk => XS.aload X8.here hx rfl (hb hby at_76) rfl rfl zk) ?_
    refine Go.st (T' := T8) (g' := (mkF m 79 #[.val (.int x0), .val (.int x1), .val (.long x2), .second, .val (.int x3), .val (.int x4), .val (.int (0 : Int32)), .val (.ref l1), .val (.int (1 : Int32)), .val (.int (4 : Int32)), .val (.ref b6), .unset, .unset, .unset, .unset] [(.int (1 : Int32)), (.ref b6)])) (fun _ zk => XS.iconst X8.here hx rfl (hb hby at_78) zk) ?_
    refine Go.st (T' := T8) (g' := (mkF m 80 #[.val (.int x0), .val (.int x1), .val (.long x2), .second, .val (.int x3), .val (.int x4), .val (.int (0 : Int32)), .val (.ref l1), .val (.int (1 : Int32)), .val (.int (4 : Int32)), .val (.ref b6), .unset, .unset, .unset, .unset] [(.long x2), (.int (1 : Int32)), (.ref b6)])) (fun _ zk => XS.lloadN X8.here hx rfl (hb hby at_79) rfl zk) ?_
    refine Go.st (T' := T8) (g' := (mkF m 81 #[.val (.int x0), .val (.int x1), .val (.long x2), .second, .val (.int x3), .val (.int x4), .val (.int (0 : Int32)), .val (.ref l1), .val (.int (1 : Int32)), .val (.int (4 : Int32)), .val (.ref b6), .unset, .unset, .unset, .unset] [(.int (1 : Int32)), (.long x2), (.int (1 : Int32)), (.ref b6)])) (fun _ zk => XS.iconst X8.here hx rfl (hb hby at_80) zk) ?_
    refine Go.callSt (y := (⟨"com/example/tokenweave/tokenweave/engine/BpmnReaderXmlBooleanPinLaw", "space", "(JI)C"⟩ : MethodName)) X8 hx hZ hown e8 (w22 hw) (w23 hw) (w24 hw) (w25 hw) (by decide) (argsL := [(.long x2), (.int (1 : Int32))]) (rest := [(.int (1 : Int32)), (.ref b6)]) (W := 2) (rm_space l Z a0 hw [] x2 (1 : Int32) h8 n0 (Nat.le_trans Z0 (Nat.le_trans (Nat.le_trans E1.1 E6.1) (Keep.of_wr W8).1)) ) rfl (lenOf pd32 rfl) rfl (by rw [hml]; rfl) rfl (by show 2 * 0 + _ ≤ _; exact Nat.le_of_eq rfl) (by decide) (by decide) (by decide) (by decide) (hb hby at_81) ?_
    intro v9 T9 h9 L9 X9 e9 q9
    obtain ⟨sp1, hv9, qw1, Nf9, hh9⟩ := q9
    subst hv9
    have E9 : T9.heap = h8 := e9.trans hh9
    have N9 := Fr.app N8 Nf9
    show Go p.tables e below _ T9 (mkF m 84 #[.val (.int x0), .val (.int x1), .val (.long x2), .second, .val (.int x3), .val (.int x4), .val (.int (0 : Int32)), .val (.ref l1), .val (.int (1 : Int32)), .val (.int (4 : Int32)), .val (.ref b6), .unset, .unset, .unset, .unset] [(.int sp1), (.int (1 : Int32)), (.ref b6)])
    obtain ⟨T10, h10, X10, e10, W10, V10, st10⟩ := stCV X9 hx hZ E9 V8' (j := (1 : Int32)) (i := 1) (by decide) rfl (Nat.le_of_ble_eq_true rfl) (g := (mkF m 84 #[.val (.int x0), .val (.int x1), .val (.long x2), .second, .val (.int x3), .val (.int x4), .val (.int (0 : Int32)), .val (.ref l1), .val (.int (1 : Int32)), .val (.int (4 : Int32)), .val (.ref b6), .unset, .unset, .unset, .unset] [(.int sp1), (.int (1 : Int32)), (.ref b6)])) rfl rfl (hb hby at_84)
    rw [nar_cid (x := sp1) (by unfold wsr at qw1; omega)] at V10
    have V10' : Arv Z h10 b6 k6 .char (7 : Int32) [(.int sp0), (.int sp1), (.int (0 : Int32)), (.int (0 : Int32)), (.int (0 : Int32)), (.int (0 : Int32)), (.int (0 : Int32))] (.int (0 : Int32)) := V10
    have N10 := Fr.snoc X10 N9 (Nat.le_trans Z0 (Nat.le_trans E1.1 (Nat.le_of_eq g6.symm)))
    refine Go.st (T' := T10) (g' := (mkF m 85 #[.val (.int x0), .val (.int x1), .val (.long x2), .second, .val (.int x3), .val (.int x4), .val (.int (0 : Int32)), .val (.ref l1), .val (.int (1 : Int32)), .val (.int (4 : Int32)), .val (.ref b6), .unset, .unset, .unset, .unset] [])) (fun _ zk => st10 _ zk) ?_
    refine Go.st (T' := T10) (g' := (mkF m 87 #[.val (.int x0), .val (.int x1), .val (.long x2), .second, .val (.int x3), .val (.int x4), .val (.int (0 : Int32)), .val (.ref l1), .val (.int (1 : Int32)), .val (.int (4 : Int32)), .val (.ref b6), .unset, .unset, .unset, .unset] [(.ref b6)])) (fun _ zk => XS.aload X10.here hx rfl (hb hby at_85) rfl rfl zk) ?_
    refine Go.st (T' := T10) (g' := (mkF m 88 #[.val (.int x0), .val (.int x1), .val (.long x2), .second, .val (.int x3), .val (.int x4), .val (.int (0 : Int32)), .val (.ref l1), .val (.int (1 : Int32)), .val (.int (4 : Int32)), .val (.ref b6), .unset, .unset, .unset, .unset] [(.int (2 : Int32)), (.ref b6)])) (fun _ zk => XS.iconst X10.here hx rfl (hb hby at_87) zk) ?_
    refine Go.st (T' := T10) (g' := (mkF m 89 #[.val (.int x0), .val (.int x1), .val (.long x2), .second, .val (.int x3), .val (.int x4), .val (.int (0 : Int32)), .val (.ref l1), .val (.int (1 : Int32)), .val (.int (4 : Int32)), .val (.ref b6), .unset, .unset, .unset, .unset] [(.long x2), (.int (2 : Int32)), (.ref b6)])) (fun _ zk => XS.lloadN X10.here hx rfl (hb hby at_88) rfl zk) ?_
    refine Go.st (T' := T10) (g' := (mkF m 90 #[.val (.int x0), .val (.int x1), .val (.long x2), .second, .val (.int x3), .val (.int x4), .val (.int (0 : Int32)), .val (.ref l1), .val (.int (1 : Int32)), .val (.int (4 : Int32)), .val (.ref b6), .unset, .unset, .unset, .unset] [(.int (2 : Int32)), (.long x2), (.int (2 : Int32)), (.ref b6)])) (fun _ zk => XS.iconst X10.here hx rfl (hb hby at_89) zk) ?_
    refine Go.callSt (y := (⟨"com/example/tokenweave/tokenweave/engine/BpmnReaderXmlBooleanPinLaw", "space", "(JI)C"⟩ : MethodName)) X10 hx hZ hown e10 (w22 hw) (w23 hw) (w24 hw) (w25 hw) (by decide) (argsL := [(.long x2), (.int (2 : Int32))]) (rest := [(.int (2 : Int32)), (.ref b6)]) (W := 2) (rm_space l Z a0 hw [] x2 (2 : Int32) h10 n0 (Nat.le_trans Z0 (Nat.le_trans (Nat.le_trans (Nat.le_trans E1.1 E6.1) (Keep.of_wr W8).1) (Keep.of_wr W10).1)) ) rfl (lenOf pd32 rfl) rfl (by rw [hml]; rfl) rfl (by show 2 * 0 + _ ≤ _; exact Nat.le_of_eq rfl) (by decide) (by decide) (by decide) (by decide) (hb hby at_90) ?_
    intro v11 T11 h11 L11 X11 e11 q11
    obtain ⟨sp2, hv11, qw2, Nf11, hh11⟩ := q11
    subst hv11
    have E11 : T11.heap = h10 := e11.trans hh11
    have N11 := Fr.app N10 Nf11
    show Go p.tables e below _ T11 (mkF m 93 #[.val (.int x0), .val (.int x1), .val (.long x2), .second, .val (.int x3), .val (.int x4), .val (.int (0 : Int32)), .val (.ref l1), .val (.int (1 : Int32)), .val (.int (4 : Int32)), .val (.ref b6), .unset, .unset, .unset, .unset] [(.int sp2), (.int (2 : Int32)), (.ref b6)])
    obtain ⟨T12, h12, X12, e12, W12, V12, st12⟩ := stCV X11 hx hZ E11 V10' (j := (2 : Int32)) (i := 2) (by decide) rfl (Nat.le_of_ble_eq_true rfl) (g := (mkF m 93 #[.val (.int x0), .val (.int x1), .val (.long x2), .second, .val (.int x3), .val (.int x4), .val (.int (0 : Int32)), .val (.ref l1), .val (.int (1 : Int32)), .val (.int (4 : Int32)), .val (.ref b6), .unset, .unset, .unset, .unset] [(.int sp2), (.int (2 : Int32)), (.ref b6)])) rfl rfl (hb hby at_93)
    rw [nar_cid (x := sp2) (by unfold wsr at qw2; omega)] at V12
    have V12' : Arv Z h12 b6 k6 .char (7 : Int32) [(.int sp0), (.int sp1), (.int sp2), (.int (0 : Int32)), (.int (0 : Int32)), (.int (0 : Int32)), (.int (0 : Int32))] (.int (0 : Int32)) := V12
    have N12 := Fr.snoc X12 N11 (Nat.le_trans Z0 (Nat.le_trans E1.1 (Nat.le_of_eq g6.symm)))
    refine Go.st (T' := T12) (g' := (mkF m 94 #[.val (.int x0), .val (.int x1), .val (.long x2), .second, .val (.int x3), .val (.int x4), .val (.int (0 : Int32)), .val (.ref l1), .val (.int (1 : Int32)), .val (.int (4 : Int32)), .val (.ref b6), .unset, .unset, .unset, .unset] [])) (fun _ zk => st12 _ zk) ?_
    refine Go.st (T' := T12) (g' := (mkF m 96 #[.val (.int x0), .val (.int x1), .val (.long x2), .second, .val (.int x3), .val (.int x4), .val (.int (0 : Int32)), .val (.ref l1), .val (.int (1 : Int32)), .val (.int (4 : Int32)), .val (.ref b6), .unset, .unset, .unset, .unset] [(.ref b6)])) (fun _ zk => XS.aload X12.here hx rfl (hb hby at_94) rfl rfl zk) ?_
    refine Go.st (T' := T12) (g' := (mkF m 97 #[.val (.int x0), .val (.int x1), .val (.long x2), .second, .val (.int x3), .val (.int x4), .val (.int (0 : Int32)), .val (.ref l1), .val (.int (1 : Int32)), .val (.int (4 : Int32)), .val (.ref b6), .unset, .unset, .unset, .unset] [(.int (3 : Int32)), (.ref b6)])) (fun _ zk => XS.iconst X12.here hx rfl (hb hby at_96) zk) ?_
    refine Go.st (T' := T12) (g' := (mkF m 98 #[.val (.int x0), .val (.int x1), .val (.long x2), .second, .val (.int x3), .val (.int x4), .val (.int (0 : Int32)), .val (.ref l1), .val (.int (1 : Int32)), .val (.int (4 : Int32)), .val (.ref b6), .unset, .unset, .unset, .unset] [(.long x2), (.int (3 : Int32)), (.ref b6)])) (fun _ zk => XS.lloadN X12.here hx rfl (hb hby at_97) rfl zk) ?_
    refine Go.st (T' := T12) (g' := (mkF m 99 #[.val (.int x0), .val (.int x1), .val (.long x2), .second, .val (.int x3), .val (.int x4), .val (.int (0 : Int32)), .val (.ref l1), .val (.int (1 : Int32)), .val (.int (4 : Int32)), .val (.ref b6), .unset, .unset, .unset, .unset] [(.int (3 : Int32)), (.long x2), (.int (3 : Int32)), (.ref b6)])) (fun _ zk => XS.iconst X12.here hx rfl (hb hby at_98) zk) ?_
    refine Go.callSt (y := (⟨"com/example/tokenweave/tokenweave/engine/BpmnReaderXmlBooleanPinLaw", "space", "(JI)C"⟩ : MethodName)) X12 hx hZ hown e12 (w22 hw) (w23 hw) (w24 hw) (w25 hw) (by decide) (argsL := [(.long x2), (.int (3 : Int32))]) (rest := [(.int (3 : Int32)), (.ref b6)]) (W := 2) (rm_space l Z a0 hw [] x2 (3 : Int32) h12 n0 (Nat.le_trans Z0 (Nat.le_trans (Nat.le_trans (Nat.le_trans (Nat.le_trans E1.1 E6.1) (Keep.of_wr W8).1) (Keep.of_wr W10).1) (Keep.of_wr W12).1)) ) rfl (lenOf pd32 rfl) rfl (by rw [hml]; rfl) rfl (by show 2 * 0 + _ ≤ _; exact Nat.le_of_eq rfl) (by decide) (by decide) (by decide) (by decide) (hb hby at_99) ?_
    intro v13 T13 h13 L13 X13 e13 q13
    obtain ⟨sp3, hv13, qw3, Nf13, hh13⟩ := q13
    subst hv13
    have E13 : T13.heap = h12 := e13.trans hh13
    have N13 := Fr.app N12 Nf13
    show Go p.tables e below _ T13 (mkF m 102 #[.val (.int x0), .val (.int x1), .val (.long x2), .second, .val (.int x3), .val (.int x4), .val (.int (0 : Int32)), .val (.ref l1), .val (.int (1 : Int32)), .val (.int (4 : Int32)), .val (.ref b6), .unset, .unset, .unset, .unset] [(.int sp3), (.int (3 : Int32)), (.ref b6)])
    obtain ⟨T14, h14, X14, e14, W14, V14, st14⟩ := stCV X13 hx hZ E13 V12' (j := (3 : Int32)) (i := 3) (by decide) rfl (Nat.le_of_ble_eq_true rfl) (g := (mkF m 102 #[.val (.int x0), .val (.int x1), .val (.long x2), .second, .val (.int x3), .val (.int x4), .val (.int (0 : Int32)), .val (.ref l1), .val (.int (1 : Int32)), .val (.int (4 : Int32)), .val (.ref b6), .unset, .unset, .unset, .unset] [(.int sp3), (.int (3 : Int32)), (.ref b6)])) rfl rfl (hb hby at_102)
    rw [nar_cid (x := sp3) (by unfold wsr at qw3; omega)] at V14
    have V14' : Arv Z h14 b6 k6 .char (7 : Int32) [(.int sp0), (.int sp1), (.int sp2), (.int sp3), (.int (0 : Int32)), (.int (0 : Int32)), (.int (0 : Int32))] (.int (0 : Int32)) := V14
    have N14 := Fr.snoc X14 N13 (Nat.le_trans Z0 (Nat.le_trans E1.1 (Nat.le_of_eq g6.symm)))
    refine Go.st (T' := T14) (g' := (mkF m 103 #[.val (.int x0), .val (.int x1), .val (.long x2), .second, .val (.int x3), .val (.int x4), .val (.int (0 : Int32)), .val (.ref l1), .val (.int (1 : Int32)), .val (.int (4 : Int32)), .val (.ref b6), .unset, .unset, .unset, .unset] [])) (fun _ zk => st14 _ zk) ?_
    refine Go.st (T' := T14) (g' := (mkF m 105 #[.val (.int x0), .val (.int x1), .val (.long x2), .second, .val (.int x3), .val (.int x4), .val (.int (0 : Int32)), .val (.ref l1), .val (.int (1 : Int32)), .val (.int (4 : Int32)), .val (.ref b6), .unset, .unset, .unset, .unset] [(.ref b6)])) (fun _ zk => XS.aload X14.here hx rfl (hb hby at_103) rfl rfl zk) ?_
    refine Go.st (T' := T14) (g' := (mkF m 106 #[.val (.int x0), .val (.int x1), .val (.long x2), .second, .val (.int x3), .val (.int x4), .val (.int (0 : Int32)), .val (.ref l1), .val (.int (1 : Int32)), .val (.int (4 : Int32)), .val (.ref b6), .unset, .unset, .unset, .unset] [(.int (4 : Int32)), (.ref b6)])) (fun _ zk => XS.iconst X14.here hx rfl (hb hby at_105) zk) ?_
    refine Go.st (T' := T14) (g' := (mkF m 107 #[.val (.int x0), .val (.int x1), .val (.long x2), .second, .val (.int x3), .val (.int x4), .val (.int (0 : Int32)), .val (.ref l1), .val (.int (1 : Int32)), .val (.int (4 : Int32)), .val (.ref b6), .unset, .unset, .unset, .unset] [(.long x2), (.int (4 : Int32)), (.ref b6)])) (fun _ zk => XS.lloadN X14.here hx rfl (hb hby at_106) rfl zk) ?_
    refine Go.st (T' := T14) (g' := (mkF m 108 #[.val (.int x0), .val (.int x1), .val (.long x2), .second, .val (.int x3), .val (.int x4), .val (.int (0 : Int32)), .val (.ref l1), .val (.int (1 : Int32)), .val (.int (4 : Int32)), .val (.ref b6), .unset, .unset, .unset, .unset] [(.int (4 : Int32)), (.long x2), (.int (4 : Int32)), (.ref b6)])) (fun _ zk => XS.iconst X14.here hx rfl (hb hby at_107) zk) ?_
    refine Go.callSt (y := (⟨"com/example/tokenweave/tokenweave/engine/BpmnReaderXmlBooleanPinLaw", "space", "(JI)C"⟩ : MethodName)) X14 hx hZ hown e14 (w22 hw) (w23 hw) (w24 hw) (w25 hw) (by decide) (argsL := [(.long x2), (.int (4 : Int32))]) (rest := [(.int (4 : Int32)), (.ref b6)]) (W := 2) (rm_space l Z a0 hw [] x2 (4 : Int32) h14 n0 (Nat.le_trans Z0 (Nat.le_trans (Nat.le_trans (Nat.le_trans (Nat.le_trans (Nat.le_trans E1.1 E6.1) (Keep.of_wr W8).1) (Keep.of_wr W10).1) (Keep.of_wr W12).1) (Keep.of_wr W14).1)) ) rfl (lenOf pd32 rfl) rfl (by rw [hml]; rfl) rfl (by show 2 * 0 + _ ≤ _; exact Nat.le_of_eq rfl) (by decide) (by decide) (by decide) (by decide) (hb hby at_108) ?_
    intro v15 T15 h15 L15 X15 e15 q15
    obtain ⟨sp4, hv15, qw4, Nf15, hh15⟩ := q15
    subst hv15
    have E15 : T15.heap = h14 := e15.trans hh15
    have N15 := Fr.app N14 Nf15
    show Go p.tables e below _ T15 (mkF m 111 #[.val (.int x0), .val (.int x1), .val (.long x2), .second, .val (.int x3), .val (.int x4), .val (.int (0 : Int32)), .val (.ref l1), .val (.int (1 : Int32)), .val (.int (4 : Int32)), .val (.ref b6), .unset, .unset, .unset, .unset] [(.int sp4), (.int (4 : Int32)), (.ref b6)])
    obtain ⟨T16, h16, X16, e16, W16, V16, st16⟩ := stCV X15 hx hZ E15 V14' (j := (4 : Int32)) (i := 4) (by decide) rfl (Nat.le_of_ble_eq_true rfl) (g := (mkF m 111 #[.val (.int x0), .val (.int x1), .val (.long x2), .second, .val (.int x3), .val (.int x4), .val (.int (0 : Int32)), .val (.ref l1), .val (.int (1 : Int32)), .val (.int (4 : Int32)), .val (.ref b6), .unset, .unset, .unset, .unset] [(.int sp4), (.int (4 : Int32)), (.ref b6)])) rfl rfl (hb hby at_111)
    rw [nar_cid (x := sp4) (by unfold wsr at qw4; omega)] at V16
    have V16' : Arv Z h16 b6 k6 .char (7 : Int32) [(.int sp0), (.int sp1), (.int sp2), (.int sp3), (.int sp4), (.int (0 : Int32)), (.int (0 : Int32))] (.int (0 : Int32)) := V16
    have N16 := Fr.snoc X16 N15 (Nat.le_trans Z0 (Nat.le_trans E1.1 (Nat.le_of_eq g6.symm)))
    refine Go.st (T' := T16) (g' := (mkF m 112 #[.val (.int x0), .val (.int x1), .val (.long x2), .second, .val (.int x3), .val (.int x4), .val (.int (0 : Int32)), .val (.ref l1), .val (.int (1 : Int32)), .val (.int (4 : Int32)), .val (.ref b6), .unset, .unset, .unset, .unset] [])) (fun _ zk => st16 _ zk) ?_
    refine Go.st (T' := T16) (g' := (mkF m 114 #[.val (.int x0), .val (.int x1), .val (.long x2), .second, .val (.int x3), .val (.int x4), .val (.int (0 : Int32)), .val (.ref l1), .val (.int (1 : Int32)), .val (.int (4 : Int32)), .val (.ref b6), .unset, .unset, .unset, .unset] [(.ref b6)])) (fun _ zk => XS.aload X16.here hx rfl (hb hby at_112) rfl rfl zk) ?_
    refine Go.st (T' := T16) (g' := (mkF m 115 #[.val (.int x0), .val (.int x1), .val (.long x2), .second, .val (.int x3), .val (.int x4), .val (.int (0 : Int32)), .val (.ref l1), .val (.int (1 : Int32)), .val (.int (4 : Int32)), .val (.ref b6), .unset, .unset, .unset, .unset] [(.int (5 : Int32)), (.ref b6)])) (fun _ zk => XS.iconst X16.here hx rfl (hb hby at_114) zk) ?_
    refine Go.st (T' := T16) (g' := (mkF m 116 #[.val (.int x0), .val (.int x1), .val (.long x2), .second, .val (.int x3), .val (.int x4), .val (.int (0 : Int32)), .val (.ref l1), .val (.int (1 : Int32)), .val (.int (4 : Int32)), .val (.ref b6), .unset, .unset, .unset, .unset] [(.long x2), (.int (5 : Int32)), (.ref b6)])) (fun _ zk => XS.lloadN X16.here hx rfl (hb hby at_115) rfl zk) ?_
    refine Go.st (T' := T16) (g' := (mkF m 117 #[.val (.int x0), .val (.int x1), .val (.long x2), .second, .val (.int x3), .val (.int x4), .val (.int (0 : Int32)), .val (.ref l1), .val (.int (1 : Int32)), .val (.int (4 : Int32)), .val (.ref b6), .unset, .unset, .unset, .unset] [(.int (5 : Int32)), (.long x2), (.int (5 : Int32)), (.ref b6)])) (fun _ zk => XS.iconst X16.here hx rfl (hb hby at_116) zk) ?_
    refine Go.callSt (y := (⟨"com/example/tokenweave/tokenweave/engine/BpmnReaderXmlBooleanPinLaw", "space", "(JI)C"⟩ : MethodName)) X16 hx hZ hown e16 (w22 hw) (w23 hw) (w24 hw) (w25 hw) (by decide) (argsL := [(.long x2), (.int (5 : Int32))]) (rest := [(.int (5 : Int32)), (.ref b6)]) (W := 2) (rm_space l Z a0 hw [] x2 (5 : Int32) h16 n0 (Nat.le_trans Z0 (Nat.le_trans (Nat.le_trans (Nat.le_trans (Nat.le_trans (Nat.le_trans (Nat.le_trans E1.1 E6.1) (Keep.of_wr W8).1) (Keep.of_wr W10).1) (Keep.of_wr W12).1) (Keep.of_wr W14).1) (Keep.of_wr W16).1)) ) rfl (lenOf pd32 rfl) rfl (by rw [hml]; rfl) rfl (by show 2 * 0 + _ ≤ _; exact Nat.le_of_eq rfl) (by decide) (by decide) (by decide) (by decide) (hb hby at_117) ?_
    intro v17 T17 h17 L17 X17 e17 q17
    obtain ⟨sp5, hv17, qw5, Nf17, hh17⟩ := q17
    subst hv17
    have E17 : T17.heap = h16 := e17.trans hh17
    have N17 := Fr.app N16 Nf17
    show Go p.tables e below _ T17 (mkF m 120 #[.val (.int x0), .val (.int x1), .val (.long x2), .second, .val (.int x3), .val (.int x4), .val (.int (0 : Int32)), .val (.ref l1), .val (.int (1 : Int32)), .val (.int (4 : Int32)), .val (.ref b6), .unset, .unset, .unset, .unset] [(.int sp5), (.int (5 : Int32)), (.ref b6)])
    obtain ⟨T18, h18, X18, e18, W18, V18, st18⟩ := stCV X17 hx hZ E17 V16' (j := (5 : Int32)) (i := 5) (by decide) rfl (Nat.le_of_ble_eq_true rfl) (g := (mkF m 120 #[.val (.int x0), .val (.int x1), .val (.long x2), .second, .val (.int x3), .val (.int x4), .val (.int (0 : Int32)), .val (.ref l1), .val (.int (1 : Int32)), .val (.int (4 : Int32)), .val (.ref b6), .unset, .unset, .unset, .unset] [(.int sp5), (.int (5 : Int32)), (.ref b6)])) rfl rfl (hb hby at_120)
    rw [nar_cid (x := sp5) (by unfold wsr at qw5; omega)] at V18
    have V18' : Arv Z h18 b6 k6 .char (7 : Int32) [(.int sp0), (.int sp1), (.int sp2), (.int sp3), (.int sp4), (.int sp5), (.int (0 : Int32))] (.int (0 : Int32)) := V18
    have N18 := Fr.snoc X18 N17 (Nat.le_trans Z0 (Nat.le_trans E1.1 (Nat.le_of_eq g6.symm)))
    refine Go.st (T' := T18) (g' := (mkF m 121 #[.val (.int x0), .val (.int x1), .val (.long x2), .second, .val (.int x3), .val (.int x4), .val (.int (0 : Int32)), .val (.ref l1), .val (.int (1 : Int32)), .val (.int (4 : Int32)), .val (.ref b6), .unset, .unset, .unset, .unset] [])) (fun _ zk => st18 _ zk) ?_
    refine Go.st (T' := T18) (g' := (mkF m 123 #[.val (.int x0), .val (.int x1), .val (.long x2), .second, .val (.int x3), .val (.int x4), .val (.int (0 : Int32)), .val (.ref l1), .val (.int (1 : Int32)), .val (.int (4 : Int32)), .val (.ref b6), .unset, .unset, .unset, .unset] [(.ref b6)])) (fun _ zk => XS.aload X18.here hx rfl (hb hby at_121) rfl rfl zk) ?_
    refine Go.st (T' := T18) (g' := (mkF m 125 #[.val (.int x0), .val (.int x1), .val (.long x2), .second, .val (.int x3), .val (.int x4), .val (.int (0 : Int32)), .val (.ref l1), .val (.int (1 : Int32)), .val (.int (4 : Int32)), .val (.ref b6), .unset, .unset, .unset, .unset] [(.int (6 : Int32)), (.ref b6)])) (fun _ zk => XS.bipush X18.here hx rfl (hb hby at_123) zk) ?_
    refine Go.st (T' := T18) (g' := (mkF m 126 #[.val (.int x0), .val (.int x1), .val (.long x2), .second, .val (.int x3), .val (.int x4), .val (.int (0 : Int32)), .val (.ref l1), .val (.int (1 : Int32)), .val (.int (4 : Int32)), .val (.ref b6), .unset, .unset, .unset, .unset] [(.long x2), (.int (6 : Int32)), (.ref b6)])) (fun _ zk => XS.lloadN X18.here hx rfl (hb hby at_125) rfl zk) ?_
    refine Go.st (T' := T18) (g' := (mkF m 128 #[.val (.int x0), .val (.int x1), .val (.long x2), .second, .val (.int x3), .val (.int x4), .val (.int (0 : Int32)), .val (.ref l1), .val (.int (1 : Int32)), .val (.int (4 : Int32)), .val (.ref b6), .unset, .unset, .unset, .unset] [(.int (6 : Int32)), (.long x2), (.int (6 : Int32)), (.ref b6)])) (fun _ zk => XS.bipush X18.here hx rfl (hb hby at_126) zk) ?_
    refine Go.callSt (y := (⟨"com/example/tokenweave/tokenweave/engine/BpmnReaderXmlBooleanPinLaw", "space", "(JI)C"⟩ : MethodName)) X18 hx hZ hown e18 (w22 hw) (w23 hw) (w24 hw) (w25 hw) (by decide) (argsL := [(.long x2), (.int (6 : Int32))]) (rest := [(.int (6 : Int32)), (.ref b6)]) (W := 2) (rm_space l Z a0 hw [] x2 (6 : Int32) h18 n0 (Nat.le_trans Z0 (Nat.le_trans (Nat.le_trans (Nat.le_trans (Nat.le_trans (Nat.le_trans (Nat.le_trans (Nat.le_trans E1.1 E6.1) (Keep.of_wr W8).1) (Keep.of_wr W10).1) (Keep.of_wr W12).1) (Keep.of_wr W14).1) (Keep.of_wr W16).1) (Keep.of_wr W18).1)) ) rfl (lenOf pd32 rfl) rfl (by rw [hml]; rfl) rfl (by show 2 * 0 + _ ≤ _; exact Nat.le_of_eq rfl) (by decide) (by decide) (by decide) (by decide) (hb hby at_128) ?_
    intro v19 T19 h19 L19 X19 e19 q19
    obtain ⟨sp6, hv19, qw6, Nf19, hh19⟩ := q19
    subst hv19
    have E19 : T19.heap = h18 := e19.trans hh19
    have N19 := Fr.app N18 Nf19
    show Go p.tables e below _ T19 (mkF m 131 #[.val (.int x0), .val (.int x1), .val (.long x2), .second, .val (.int x3), .val (.int x4), .val (.int (0 : Int32)), .val (.ref l1), .val (.int (1 : Int32)), .val (.int (4 : Int32)), .val (.ref b6), .unset, .unset, .unset, .unset] [(.int sp6), (.int (6 : Int32)), (.ref b6)])
    obtain ⟨T20, h20, X20, e20, W20, V20, st20⟩ := stCV X19 hx hZ E19 V18' (j := (6 : Int32)) (i := 6) (by decide) rfl (Nat.le_of_ble_eq_true rfl) (g := (mkF m 131 #[.val (.int x0), .val (.int x1), .val (.long x2), .second, .val (.int x3), .val (.int x4), .val (.int (0 : Int32)), .val (.ref l1), .val (.int (1 : Int32)), .val (.int (4 : Int32)), .val (.ref b6), .unset, .unset, .unset, .unset] [(.int sp6), (.int (6 : Int32)), (.ref b6)])) rfl rfl (hb hby at_131)
    rw [nar_cid (x := sp6) (by unfold wsr at qw6; omega)] at V20
    have V20' : Arv Z h20 b6 k6 .char (7 : Int32) [(.int sp0), (.int sp1), (.int sp2), (.int sp3), (.int sp4), (.int sp5), (.int sp6)] (.int (0 : Int32)) := V20
    have N20 := Fr.snoc X20 N19 (Nat.le_trans Z0 (Nat.le_trans E1.1 (Nat.le_of_eq g6.symm)))
    refine Go.st (T' := T20) (g' := (mkF m 132 #[.val (.int x0), .val (.int x1), .val (.long x2), .second, .val (.int x3), .val (.int x4), .val (.int (0 : Int32)), .val (.ref l1), .val (.int (1 : Int32)), .val (.int (4 : Int32)), .val (.ref b6), .unset, .unset, .unset, .unset] [])) (fun _ zk => st20 _ zk) ?_
    refine Go.st (T' := T20) (g' := (mkF m 133 #[.val (.int x0), .val (.int x1), .val (.long x2), .second, .val (.int x3), .val (.int x4), .val (.int (0 : Int32)), .val (.ref l1), .val (.int (1 : Int32)), .val (.int (4 : Int32)), .val (.ref b6), .unset, .unset, .unset, .unset] [(.int x1)])) (fun _ zk => XS.iloadN X20.here hx rfl (hb hby at_132) rfl zk) ?_
    refine Go.st (T' := T20) (g' := (mkF m 135 #[.val (.int x0), .val (.int x1), .val (.long x2), .second, .val (.int x3), .val (.int x4), .val (.int (0 : Int32)), .val (.ref l1), .val (.int (1 : Int32)), .val (.int (4 : Int32)), .val (.ref b6), .unset, .unset, .unset, .unset] [(.int (2147483647 : Int32)), (.int x1)])) (fun _ zk => X20.ldcI hx hown (mvT hZ (w27 hw)) rfl (hb hby at_133) zk) ?_
    refine Go.st (T' := T20) (g' := (mkF m 136 #[.val (.int x0), .val (.int x1), .val (.long x2), .second, .val (.int x3), .val (.int x4), .val (.int (0 : Int32)), .val (.ref l1), .val (.int (1 : Int32)), .val (.int (4 : Int32)), .val (.ref b6), .unset, .unset, .unset, .unset] [(.int (x1 &&& (2147483647 : Int32)))])) (fun _ zk => XS.iand X20.here hx rfl (hb hby at_135) rfl zk) ?_
    refine Go.st (T' := T20) (g' := (mkF m 138 #[.val (.int x0), .val (.int x1), .val (.long x2), .second, .val (.int x3), .val (.int x4), .val (.int (0 : Int32)), .val (.ref l1), .val (.int (1 : Int32)), .val (.int (4 : Int32)), .val (.ref b6), .unset, .unset, .unset, .unset] [(.int (8 : Int32)), (.int (x1 &&& (2147483647 : Int32)))])) (fun _ zk => XS.bipush X20.here hx rfl (hb hby at_136) zk) ?_
    refine Go.st (T' := T20) (g' := (mkF m 140 #[.val (.int x0), .val (.int x1), .val (.long x2), .second, .val (.int x3), .val (.int x4), .val (.int (0 : Int32)), .val (.ref l1), .val (.int (1 : Int32)), .val (.int (4 : Int32)), .val (.ref b6), .unset, .unset, .unset, .unset] [(.int (4 : Int32)), (.int (8 : Int32)), (.int (x1 &&& (2147483647 : Int32)))])) (fun _ zk => XS.iload X20.here hx rfl (hb hby at_138) rfl zk) ?_
    refine Go.st (T' := T20) (g' := (mkF m 141 #[.val (.int x0), .val (.int x1), .val (.long x2), .second, .val (.int x3), .val (.int x4), .val (.int (0 : Int32)), .val (.ref l1), .val (.int (1 : Int32)), .val (.int (4 : Int32)), .val (.ref b6), .unset, .unset, .unset, .unset] [(.int ((8 : Int32) - (4 : Int32))), (.int (x1 &&& (2147483647 : Int32)))])) (fun _ zk => XS.isub X20.here hx rfl (hb hby at_140) rfl zk) ?_
    rw [show ((8 : Int32) - (4 : Int32)) = (4 : Int32) from by decide]
    refine Go.st (T' := T20) (g' := (mkF m 142 #[.val (.int x0), .val (.int x1), .val (.long x2), .second, .val (.int x3), .val (.int x4), .val (.int (0 : Int32)), .val (.ref l1), .val (.int (1 : Int32)), .val (.int (4 : Int32)), .val (.ref b6), .unset, .unset, .unset, .unset] [(.int ((x1 &&& (2147483647 : Int32)) % (4 : Int32)))])) (fun _ zk => iremM X20 hx rfl (hb hby at_141) rfl (by decide) zk) ?_
    obtain ⟨pn, hpn, hlt⟩ := own_pn x1 (4 : Int32) 4 (by decide) (by decide)
    rw [hpn]
    have V21 : Arv Z h20 b6 k6 .char (7 : Int32) (([sp0, sp1, sp2, sp3, sp4, sp5, sp6] : List Int32).map Value.int) (.int (0 : Int32)) := V20'
    have hwl : ∀ c ∈ ([sp0, sp1, sp2, sp3, sp4, sp5, sp6] : List Int32), wsr c := by
      simp only [List.forall_mem_cons]
      exact ⟨qw0, qw1, qw2, qw3, qw4, qw5, qw6, fun _ q => nomatch q⟩
    refine Go.st (T' := T20) (g' := (mkF m 144 #[.val (.int x0), .val (.int x1), .val (.long x2), .second, .val (.int x3), .val (.int x4), .val (.int (0 : Int32)), .val (.ref l1), .val (.int (1 : Int32)), .val (.int (4 : Int32)), .val (.ref b6), .val (.int (Int32.ofNat pn)), .unset, .unset, .unset] [])) (fun _ zk => XS.istore X20.here hx rfl (hb hby at_142) rfl (l' := #[.val (.int x0), .val (.int x1), .val (.long x2), .second, .val (.int x3), .val (.int x4), .val (.int (0 : Int32)), .val (.ref l1), .val (.int (1 : Int32)), .val (.int (4 : Int32)), .val (.ref b6), .val (.int (Int32.ofNat pn)), .unset, .unset, .unset]) rfl zk) ?_
    refine Go.st (T' := T20) (g' := (mkF m 146 #[.val (.int x0), .val (.int x1), .val (.long x2), .second, .val (.int x3), .val (.int x4), .val (.int (0 : Int32)), .val (.ref l1), .val (.int (1 : Int32)), .val (.int (4 : Int32)), .val (.ref b6), .val (.int (Int32.ofNat pn)), .unset, .unset, .unset] [(.ref b6)])) (fun _ zk => XS.aload X20.here hx rfl (hb hby at_144) rfl rfl zk) ?_
    refine Go.st (T' := T20) (g' := (mkF m 148 #[.val (.int x0), .val (.int x1), .val (.long x2), .second, .val (.int x3), .val (.int x4), .val (.int (0 : Int32)), .val (.ref l1), .val (.int (1 : Int32)), .val (.int (4 : Int32)), .val (.ref b6), .val (.int (Int32.ofNat pn)), .unset, .unset, .unset] [(.int (Int32.ofNat pn)), (.ref b6)])) (fun _ zk => XS.iload X20.here hx rfl (hb hby at_146) rfl zk) ?_
    refine Go.st (T' := T20) (g' := (mkF m 150 #[.val (.int x0), .val (.int x1), .val (.long x2), .second, .val (.int x3), .val (.int x4), .val (.int (0 : Int32)), .val (.ref l1), .val (.int (1 : Int32)), .val (.int (4 : Int32)), .val (.ref b6), .val (.int (Int32.ofNat pn)), .unset, .unset, .unset] [(.ref l1), (.int (Int32.ofNat pn)), (.ref b6)])) (fun _ zk => XS.aload X20.here hx rfl (hb hby at_148) rfl rfl zk) ?_
    refine Go.st (T' := T20) (g' := (mkF m 151 #[.val (.int x0), .val (.int x1), .val (.long x2), .second, .val (.int x3), .val (.int x4), .val (.int (0 : Int32)), .val (.ref l1), .val (.int (1 : Int32)), .val (.int (4 : Int32)), .val (.ref b6), .val (.int (Int32.ofNat pn)), .unset, .unset, .unset] [(.int (0 : Int32)), (.ref l1), (.int (Int32.ofNat pn)), (.ref b6)])) (fun _ zk => XS.iconst X20.here hx rfl (hb hby at_150) zk) ?_
    have xt22 : Ext h1 h20 := (((((((E6.thenW W8 (Nat.le_of_eq g6.symm)).thenW W10 (Nat.le_of_eq g6.symm)).thenW W12 (Nat.le_of_eq g6.symm)).thenW W14 (Nat.le_of_eq g6.symm)).thenW W16 (Nat.le_of_eq g6.symm)).thenW W18 (Nat.le_of_eq g6.symm)).thenW W20 (Nat.le_of_eq g6.symm))
    have f23 := SL.ext xt22
    have f25 := f5.ext xt22
    have f26 := A1.ext xt22
    refine Go.callV (y := (⟨"java/lang/String", "charAt", "(I)C"⟩ : MethodName)) (z := (⟨"java/lang/String", "charAt", "(I)C"⟩ : MethodName)) (C := "java/lang/String") (a := l1) X20 hx hZ hown e20 (w28 hw) (w29 hw) (w31 hw) (w30 hw) (w1 hw) (w32 hw) (notFace_of_selects (args := #[]) (mvT hZ (w31 hw))) (by decide) f26 (argsL := [(.int (0 : Int32))]) (rest := [(.int (Int32.ofNat pn)), (.ref b6)]) (W := 2) (rm_charAtG l Z a0 hw [] l1 [(116 : Int32), (114 : Int32), (117 : Int32), (101 : Int32)] 0 zc fm h20 n0 (Nat.le_trans Z0 (Nat.le_trans (Nat.le_trans (Nat.le_trans (Nat.le_trans (Nat.le_trans (Nat.le_trans (Nat.le_trans (Nat.le_trans E1.1 E6.1) (Keep.of_wr W8).1) (Keep.of_wr W10).1) (Keep.of_wr W12).1) (Keep.of_wr W14).1) (Keep.of_wr W16).1) (Keep.of_wr W18).1) (Keep.of_wr W20).1)) f25 f23 (by decide) (by decide) CS hz FM rf) rfl (lenOf pd33 rfl) rfl (by rw [hml]; rfl) rfl (by show 2 * 0 + _ ≤ _; exact Nat.le_of_eq rfl) (by decide) (by decide) (by decide) (by decide) (hb hby at_151) ?_
    intro v24 T24 h24 L24 X24 e24 q24
    obtain ⟨hv24, Nf24, hh24⟩ := q24
    subst hv24
    have E24 : T24.heap = h20 := e24.trans hh24
    have N24 := Fr.app N20 Nf24
    show Go p.tables e below _ T24 (mkF m 154 #[.val (.int x0), .val (.int x1), .val (.long x2), .second, .val (.int x3), .val (.int x4), .val (.int (0 : Int32)), .val (.ref l1), .val (.int (1 : Int32)), .val (.int (4 : Int32)), .val (.ref b6), .val (.int (Int32.ofNat pn)), .unset, .unset, .unset] [(.int (((([(116 : Int32), (114 : Int32), (117 : Int32), (101 : Int32)] : List Int32).getD 0 0) &&& (255 : Int32)).toUInt32.toUInt16.toUInt32.toInt32)), (.int (Int32.ofNat pn)), (.ref b6)])
    rw [show (((([(116 : Int32), (114 : Int32), (117 : Int32), (101 : Int32)] : List Int32).getD 0 0) &&& (255 : Int32)).toUInt32.toUInt16.toUInt32.toInt32) = (116 : Int32) from by decide]
    obtain ⟨T27, h27, X27, e27, W27, V27, st27⟩ := stCV X24 hx hZ E24 V21 (j := (Int32.ofNat pn)) (i := pn) ⟨own_ofn0 (by omega), own_oflt (n := 7) (by omega) (by omega)⟩ (own_clamp (by omega)) (by simp only [List.length_map, List.length_set, List.length_cons, List.length_nil]; omega) (g := (mkF m 154 #[.val (.int x0), .val (.int x1), .val (.long x2), .second, .val (.int x3), .val (.int x4), .val (.int (0 : Int32)), .val (.ref l1), .val (.int (1 : Int32)), .val (.int (4 : Int32)), .val (.ref b6), .val (.int (Int32.ofNat pn)), .unset, .unset, .unset] [(.int (116 : Int32)), (.int (Int32.ofNat pn)), (.ref b6)])) rfl rfl (hb hby at_154)
    rw [show nar .char (116 : Int32) = (116 : Int32) from by decide, ← List.map_set] at V27
    have N27 := Fr.snoc X27 N24 (Nat.le_trans Z0 (Nat.le_trans E1.1 (Nat.le_of_eq g6.symm)))
    refine Go.st (T' := T27) (g' := (mkF m 155 #[.val (.int x0), .val (.int x1), .val (.long x2), .second, .val (.int x3), .val (.int x4), .val (.int (0 : Int32)), .val (.ref l1), .val (.int (1 : Int32)), .val (.int (4 : Int32)), .val (.ref b6), .val (.int (Int32.ofNat pn)), .unset, .unset, .unset] [])) (fun _ zk => st27 _ zk) ?_
    refine Go.st (T' := T27) (g' := (mkF m 157 #[.val (.int x0), .val (.int x1), .val (.long x2), .second, .val (.int x3), .val (.int x4), .val (.int (0 : Int32)), .val (.ref l1), .val (.int (1 : Int32)), .val (.int (4 : Int32)), .val (.ref b6), .val (.int (Int32.ofNat pn)), .unset, .unset, .unset] [(.int (4 : Int32))])) (fun _ zk => XS.iload X27.here hx rfl (hb hby at_155) rfl zk) ?_
    refine Go.st (T' := T27) (g' := (mkF m 158 #[.val (.int x0), .val (.int x1), .val (.long x2), .second, .val (.int x3), .val (.int x4), .val (.int (0 : Int32)), .val (.ref l1), .val (.int (1 : Int32)), .val (.int (4 : Int32)), .val (.ref b6), .val (.int (Int32.ofNat pn)), .unset, .unset, .unset] [(.int (1 : Int32)), (.int (4 : Int32))])) (fun _ zk => XS.iconst X27.here hx rfl (hb hby at_157) zk) ?_
    refine Go.st (T' := T27) (g' := (mkF m 161 #[.val (.int x0), .val (.int x1), .val (.long x2), .second, .val (.int x3), .val (.int x4), .val (.int (0 : Int32)), .val (.ref l1), .val (.int (1 : Int32)), .val (.int (4 : Int32)), .val (.ref b6), .val (.int (Int32.ofNat pn)), .unset, .unset, .unset] [])) (fun _ zk => XS.icmpNo X27.here hx rfl (hb hby at_158) rfl (tlt ((by decide) : (1 : Int32) < (4 : Int32))).2.2.2 zk) ?_
    refine Go.st (T' := T27) (g' := (mkF m 163 #[.val (.int x0), .val (.int x1), .val (.long x2), .second, .val (.int x3), .val (.int x4), .val (.int (0 : Int32)), .val (.ref l1), .val (.int (1 : Int32)), .val (.int (4 : Int32)), .val (.ref b6), .val (.int (Int32.ofNat pn)), .unset, .unset, .unset] [(.ref b6)])) (fun _ zk => XS.aload X27.here hx rfl (hb hby at_161) rfl rfl zk) ?_
    refine Go.st (T' := T27) (g' := (mkF m 165 #[.val (.int x0), .val (.int x1), .val (.long x2), .second, .val (.int x3), .val (.int x4), .val (.int (0 : Int32)), .val (.ref l1), .val (.int (1 : Int32)), .val (.int (4 : Int32)), .val (.ref b6), .val (.int (Int32.ofNat pn)), .unset, .unset, .unset] [(.int (Int32.ofNat pn)), (.ref b6)])) (fun _ zk => XS.iload X27.here hx rfl (hb hby at_163) rfl zk) ?_
    refine Go.st (T' := T27) (g' := (mkF m 166 #[.val (.int x0), .val (.int x1), .val (.long x2), .second, .val (.int x3), .val (.int x4), .val (.int (0 : Int32)), .val (.ref l1), .val (.int (1 : Int32)), .val (.int (4 : Int32)), .val (.ref b6), .val (.int (Int32.ofNat pn)), .unset, .unset, .unset] [(.int (1 : Int32)), (.int (Int32.ofNat pn)), (.ref b6)])) (fun _ zk => XS.iconst X27.here hx rfl (hb hby at_165) zk) ?_
    refine Go.st (T' := T27) (g' := (mkF m 167 #[.val (.int x0), .val (.int x1), .val (.long x2), .second, .val (.int x3), .val (.int x4), .val (.int (0 : Int32)), .val (.ref l1), .val (.int (1 : Int32)), .val (.int (4 : Int32)), .val (.ref b6), .val (.int (Int32.ofNat pn)), .unset, .unset, .unset] [(.int ((Int32.ofNat pn) + (1 : Int32))), (.ref b6)])) (fun _ zk => XS.iadd X27.here hx rfl (hb hby at_166) rfl zk) ?_
    rw [show Int32.ofNat pn + (1 : Int32) = Int32.ofNat (pn + 1) from (Int32.ofNat_add pn 1).symm]
    refine Go.st (T' := T27) (g' := (mkF m 169 #[.val (.int x0), .val (.int x1), .val (.long x2), .second, .val (.int x3), .val (.int x4), .val (.int (0 : Int32)), .val (.ref l1), .val (.int (1 : Int32)), .val (.int (4 : Int32)), .val (.ref b6), .val (.int (Int32.ofNat pn)), .unset, .unset, .unset] [(.ref l1), (.int (Int32.ofNat (pn + 1))), (.ref b6)])) (fun _ zk => XS.aload X27.here hx rfl (hb hby at_167) rfl rfl zk) ?_
    refine Go.st (T' := T27) (g' := (mkF m 170 #[.val (.int x0), .val (.int x1), .val (.long x2), .second, .val (.int x3), .val (.int x4), .val (.int (0 : Int32)), .val (.ref l1), .val (.int (1 : Int32)), .val (.int (4 : Int32)), .val (.ref b6), .val (.int (Int32.ofNat pn)), .unset, .unset, .unset] [(.int (1 : Int32)), (.ref l1), (.int (Int32.ofNat (pn + 1))), (.ref b6)])) (fun _ zk => XS.iconst X27.here hx rfl (hb hby at_169) zk) ?_
    have xt28 : Ext h1 h27 := (xt22.thenW W27 (Nat.le_of_eq g6.symm))
    have f29 := SL.ext xt28
    have f31 := (f25.wr W27 (Nat.le_trans Z0 (Nat.le_trans E1.1 (Nat.le_of_eq g6.symm))))
    have f32 := (f26.wr W27)
    refine Go.callV (y := (⟨"java/lang/String", "charAt", "(I)C"⟩ : MethodName)) (z := (⟨"java/lang/String", "charAt", "(I)C"⟩ : MethodName)) (C := "java/lang/String") (a := l1) X27 hx hZ hown e27 (w28 hw) (w29 hw) (w31 hw) (w30 hw) (w1 hw) (w32 hw) (notFace_of_selects (args := #[]) (mvT hZ (w31 hw))) (by decide) f32 (argsL := [(.int (1 : Int32))]) (rest := [(.int (Int32.ofNat (pn + 1))), (.ref b6)]) (W := 2) (rm_charAtG l Z a0 hw [] l1 [(116 : Int32), (114 : Int32), (117 : Int32), (101 : Int32)] 1 zc fm h27 n0 (Nat.le_trans Z0 (Nat.le_trans (Nat.le_trans (Nat.le_trans (Nat.le_trans (Nat.le_trans (Nat.le_trans (Nat.le_trans (Nat.le_trans (Nat.le_trans E1.1 E6.1) (Keep.of_wr W8).1) (Keep.of_wr W10).1) (Keep.of_wr W12).1) (Keep.of_wr W14).1) (Keep.of_wr W16).1) (Keep.of_wr W18).1) (Keep.of_wr W20).1) (Keep.of_wr W27).1)) f31 f29 (by decide) (by decide) CS hz FM rf) rfl (lenOf pd33 rfl) rfl (by rw [hml]; rfl) rfl (by show 2 * 0 + _ ≤ _; exact Nat.le_of_eq rfl) (by decide) (by decide) (by decide) (by decide) (hb hby at_170) ?_
    intro v30 T30 h30 L30 X30 e30 q30
    obtain ⟨hv30, Nf30, hh30⟩ := q30
    subst hv30
    have E30 : T30.heap = h27 := e30.trans hh30
    have N30 := Fr.app N27 Nf30
    show Go p.tables e below _ T30 (mkF m 173 #[.val (.int x0), .val (.int x1), .val (.long x2), .second, .val (.int x3), .val (.int x4), .val (.int (0 : Int32)), .val (.ref l1), .val (.int (1 : Int32)), .val (.int (4 : Int32)), .val (.ref b6), .val (.int (Int32.ofNat pn)), .unset, .unset, .unset] [(.int (((([(116 : Int32), (114 : Int32), (117 : Int32), (101 : Int32)] : List Int32).getD 1 0) &&& (255 : Int32)).toUInt32.toUInt16.toUInt32.toInt32)), (.int (Int32.ofNat (pn + 1))), (.ref b6)])
    rw [show (((([(116 : Int32), (114 : Int32), (117 : Int32), (101 : Int32)] : List Int32).getD 1 0) &&& (255 : Int32)).toUInt32.toUInt16.toUInt32.toInt32) = (114 : Int32) from by decide]
    obtain ⟨T33, h33, X33, e33, W33, V33, st33⟩ := stCV X30 hx hZ E30 V27 (j := (Int32.ofNat (pn + 1))) (i := (pn + 1)) ⟨own_ofn0 (by omega), own_oflt (n := 7) (by omega) (by omega)⟩ (own_clamp (by omega)) (by simp only [List.length_map, List.length_set, List.length_cons, List.length_nil]; omega) (g := (mkF m 173 #[.val (.int x0), .val (.int x1), .val (.long x2), .second, .val (.int x3), .val (.int x4), .val (.int (0 : Int32)), .val (.ref l1), .val (.int (1 : Int32)), .val (.int (4 : Int32)), .val (.ref b6), .val (.int (Int32.ofNat pn)), .unset, .unset, .unset] [(.int (114 : Int32)), (.int (Int32.ofNat (pn + 1))), (.ref b6)])) rfl rfl (hb hby at_173)
    rw [show nar .char (114 : Int32) = (114 : Int32) from by decide, ← List.map_set] at V33
    have N33 := Fr.snoc X33 N30 (Nat.le_trans Z0 (Nat.le_trans E1.1 (Nat.le_of_eq g6.symm)))
    refine Go.st (T' := T33) (g' := (mkF m 174 #[.val (.int x0), .val (.int x1), .val (.long x2), .second, .val (.int x3), .val (.int x4), .val (.int (0 : Int32)), .val (.ref l1), .val (.int (1 : Int32)), .val (.int (4 : Int32)), .val (.ref b6), .val (.int (Int32.ofNat pn)), .unset, .unset, .unset] [])) (fun _ zk => st33 _ zk) ?_
    refine Go.st (T' := T33) (g' := (mkF m 176 #[.val (.int x0), .val (.int x1), .val (.long x2), .second, .val (.int x3), .val (.int x4), .val (.int (0 : Int32)), .val (.ref l1), .val (.int (1 : Int32)), .val (.int (4 : Int32)), .val (.ref b6), .val (.int (Int32.ofNat pn)), .unset, .unset, .unset] [(.int (4 : Int32))])) (fun _ zk => XS.iload X33.here hx rfl (hb hby at_174) rfl zk) ?_
    refine Go.st (T' := T33) (g' := (mkF m 177 #[.val (.int x0), .val (.int x1), .val (.long x2), .second, .val (.int x3), .val (.int x4), .val (.int (0 : Int32)), .val (.ref l1), .val (.int (1 : Int32)), .val (.int (4 : Int32)), .val (.ref b6), .val (.int (Int32.ofNat pn)), .unset, .unset, .unset] [(.int (2 : Int32)), (.int (4 : Int32))])) (fun _ zk => XS.iconst X33.here hx rfl (hb hby at_176) zk) ?_
    refine Go.st (T' := T33) (g' := (mkF m 180 #[.val (.int x0), .val (.int x1), .val (.long x2), .second, .val (.int x3), .val (.int x4), .val (.int (0 : Int32)), .val (.ref l1), .val (.int (1 : Int32)), .val (.int (4 : Int32)), .val (.ref b6), .val (.int (Int32.ofNat pn)), .unset, .unset, .unset] [])) (fun _ zk => XS.icmpNo X33.here hx rfl (hb hby at_177) rfl (tlt ((by decide) : (2 : Int32) < (4 : Int32))).2.2.2 zk) ?_
    refine Go.st (T' := T33) (g' := (mkF m 182 #[.val (.int x0), .val (.int x1), .val (.long x2), .second, .val (.int x3), .val (.int x4), .val (.int (0 : Int32)), .val (.ref l1), .val (.int (1 : Int32)), .val (.int (4 : Int32)), .val (.ref b6), .val (.int (Int32.ofNat pn)), .unset, .unset, .unset] [(.ref b6)])) (fun _ zk => XS.aload X33.here hx rfl (hb hby at_180) rfl rfl zk) ?_
    refine Go.st (T' := T33) (g' := (mkF m 184 #[.val (.int x0), .val (.int x1), .val (.long x2), .second, .val (.int x3), .val (.int x4), .val (.int (0 : Int32)), .val (.ref l1), .val (.int (1 : Int32)), .val (.int (4 : Int32)), .val (.ref b6), .val (.int (Int32.ofNat pn)), .unset, .unset, .unset] [(.int (Int32.ofNat pn)), (.ref b6)])) (fun _ zk => XS.iload X33.here hx rfl (hb hby at_182) rfl zk) ?_
    refine Go.st (T' := T33) (g' := (mkF m 185 #[.val (.int x0), .val (.int x1), .val (.long x2), .second, .val (.int x3), .val (.int x4), .val (.int (0 : Int32)), .val (.ref l1), .val (.int (1 : Int32)), .val (.int (4 : Int32)), .val (.ref b6), .val (.int (Int32.ofNat pn)), .unset, .unset, .unset] [(.int (2 : Int32)), (.int (Int32.ofNat pn)), (.ref b6)])) (fun _ zk => XS.iconst X33.here hx rfl (hb hby at_184) zk) ?_
    refine Go.st (T' := T33) (g' := (mkF m 186 #[.val (.int x0), .val (.int x1), .val (.long x2), .second, .val (.int x3), .val (.int x4), .val (.int (0 : Int32)), .val (.ref l1), .val (.int (1 : Int32)), .val (.int (4 : Int32)), .val (.ref b6), .val (.int (Int32.ofNat pn)), .unset, .unset, .unset] [(.int ((Int32.ofNat pn) + (2 : Int32))), (.ref b6)])) (fun _ zk => XS.iadd X33.here hx rfl (hb hby at_185) rfl zk) ?_
    rw [show Int32.ofNat pn + (2 : Int32) = Int32.ofNat (pn + 1 + 1) from (Int32.ofNat_add pn 2).symm]
    refine Go.st (T' := T33) (g' := (mkF m 188 #[.val (.int x0), .val (.int x1), .val (.long x2), .second, .val (.int x3), .val (.int x4), .val (.int (0 : Int32)), .val (.ref l1), .val (.int (1 : Int32)), .val (.int (4 : Int32)), .val (.ref b6), .val (.int (Int32.ofNat pn)), .unset, .unset, .unset] [(.ref l1), (.int (Int32.ofNat (pn + 1 + 1))), (.ref b6)])) (fun _ zk => XS.aload X33.here hx rfl (hb hby at_186) rfl rfl zk) ?_
    refine Go.st (T' := T33) (g' := (mkF m 189 #[.val (.int x0), .val (.int x1), .val (.long x2), .second, .val (.int x3), .val (.int x4), .val (.int (0 : Int32)), .val (.ref l1), .val (.int (1 : Int32)), .val (.int (4 : Int32)), .val (.ref b6), .val (.int (Int32.ofNat pn)), .unset, .unset, .unset] [(.int (2 : Int32)), (.ref l1), (.int (Int32.ofNat (pn + 1 + 1))), (.ref b6)])) (fun _ zk => XS.iconst X33.here hx rfl (hb hby at_188) zk) ?_
    have xt34 : Ext h1 h33 := (xt28.thenW W33 (Nat.le_of_eq g6.symm))
    have f35 := SL.ext xt34
    have f37 := (f31.wr W33 (Nat.le_trans Z0 (Nat.le_trans E1.1 (Nat.le_of_eq g6.symm))))
    have f38 := (f32.wr W33)
    refine Go.callV (y := (⟨"java/lang/String", "charAt", "(I)C"⟩ : MethodName)) (z := (⟨"java/lang/String", "charAt", "(I)C"⟩ : MethodName)) (C := "java/lang/String") (a := l1) X33 hx hZ hown e33 (w28 hw) (w29 hw) (w31 hw) (w30 hw) (w1 hw) (w32 hw) (notFace_of_selects (args := #[]) (mvT hZ (w31 hw))) (by decide) f38 (argsL := [(.int (2 : Int32))]) (rest := [(.int (Int32.ofNat (pn + 1 + 1))), (.ref b6)]) (W := 2) (rm_charAtG l Z a0 hw [] l1 [(116 : Int32), (114 : Int32), (117 : Int32), (101 : Int32)] 2 zc fm h33 n0 (Nat.le_trans Z0 (Nat.le_trans (Nat.le_trans (Nat.le_trans (Nat.le_trans (Nat.le_trans (Nat.le_trans (Nat.le_trans (Nat.le_trans (Nat.le_trans (Nat.le_trans E1.1 E6.1) (Keep.of_wr W8).1) (Keep.of_wr W10).1) (Keep.of_wr W12).1) (Keep.of_wr W14).1) (Keep.of_wr W16).1) (Keep.of_wr W18).1) (Keep.of_wr W20).1) (Keep.of_wr W27).1) (Keep.of_wr W33).1)) f37 f35 (by decide) (by decide) CS hz FM rf) rfl (lenOf pd33 rfl) rfl (by rw [hml]; rfl) rfl (by show 2 * 0 + _ ≤ _; exact Nat.le_of_eq rfl) (by decide) (by decide) (by decide) (by decide) (hb hby at_189) ?_
    intro v36 T36 h36 L36 X36 e36 q36
    obtain ⟨hv36, Nf36, hh36⟩ := q36
    subst hv36
    have E36 : T36.heap = h33 := e36.trans hh36
    have N36 := Fr.app N33 Nf36
    show Go p.tables e below _ T36 (mkF m 192 #[.val (.int x0), .val (.int x1), .val (.long x2), .second, .val (.int x3), .val (.int x4), .val (.int (0 : Int32)), .val (.ref l1), .val (.int (1 : Int32)), .val (.int (4 : Int32)), .val (.ref b6), .val (.int (Int32.ofNat pn)), .unset, .unset, .unset] [(.int (((([(116 : Int32), (114 : Int32), (117 : Int32), (101 : Int32)] : List Int32).getD 2 0) &&& (255 : Int32)).toUInt32.toUInt16.toUInt32.toInt32)), (.int (Int32.ofNat (pn + 1 + 1))), (.ref b6)])
    rw [show (((([(116 : Int32), (114 : Int32), (117 : Int32), (101 : Int32)] : List Int32).getD 2 0) &&& (255 : Int32)).toUInt32.toUInt16.toUInt32.toInt32) = (117 : Int32) from by decide]
    obtain ⟨T39, h39, X39, e39, W39, V39, st39⟩ := stCV X36 hx hZ E36 V33 (j := (Int32.ofNat (pn + 1 + 1))) (i := (pn + 1 + 1)) ⟨own_ofn0 (by omega), own_oflt (n := 7) (by omega) (by omega)⟩ (own_clamp (by omega)) (by simp only [List.length_map, List.length_set, List.length_cons, List.length_nil]; omega) (g := (mkF m 192 #[.val (.int x0), .val (.int x1), .val (.long x2), .second, .val (.int x3), .val (.int x4), .val (.int (0 : Int32)), .val (.ref l1), .val (.int (1 : Int32)), .val (.int (4 : Int32)), .val (.ref b6), .val (.int (Int32.ofNat pn)), .unset, .unset, .unset] [(.int (117 : Int32)), (.int (Int32.ofNat (pn + 1 + 1))), (.ref b6)])) rfl rfl (hb hby at_192)
    rw [show nar .char (117 : Int32) = (117 : Int32) from by decide, ← List.map_set] at V39
    have N39 := Fr.snoc X39 N36 (Nat.le_trans Z0 (Nat.le_trans E1.1 (Nat.le_of_eq g6.symm)))
    refine Go.st (T' := T39) (g' := (mkF m 193 #[.val (.int x0), .val (.int x1), .val (.long x2), .second, .val (.int x3), .val (.int x4), .val (.int (0 : Int32)), .val (.ref l1), .val (.int (1 : Int32)), .val (.int (4 : Int32)), .val (.ref b6), .val (.int (Int32.ofNat pn)), .unset, .unset, .unset] [])) (fun _ zk => st39 _ zk) ?_
    refine Go.st (T' := T39) (g' := (mkF m 195 #[.val (.int x0), .val (.int x1), .val (.long x2), .second, .val (.int x3), .val (.int x4), .val (.int (0 : Int32)), .val (.ref l1), .val (.int (1 : Int32)), .val (.int (4 : Int32)), .val (.ref b6), .val (.int (Int32.ofNat pn)), .unset, .unset, .unset] [(.int (4 : Int32))])) (fun _ zk => XS.iload X39.here hx rfl (hb hby at_193) rfl zk) ?_
    refine Go.st (T' := T39) (g' := (mkF m 196 #[.val (.int x0), .val (.int x1), .val (.long x2), .second, .val (.int x3), .val (.int x4), .val (.int (0 : Int32)), .val (.ref l1), .val (.int (1 : Int32)), .val (.int (4 : Int32)), .val (.ref b6), .val (.int (Int32.ofNat pn)), .unset, .unset, .unset] [(.int (3 : Int32)), (.int (4 : Int32))])) (fun _ zk => XS.iconst X39.here hx rfl (hb hby at_195) zk) ?_
    refine Go.st (T' := T39) (g' := (mkF m 199 #[.val (.int x0), .val (.int x1), .val (.long x2), .second, .val (.int x3), .val (.int x4), .val (.int (0 : Int32)), .val (.ref l1), .val (.int (1 : Int32)), .val (.int (4 : Int32)), .val (.ref b6), .val (.int (Int32.ofNat pn)), .unset, .unset, .unset] [])) (fun _ zk => XS.icmpNo X39.here hx rfl (hb hby at_196) rfl (tlt ((by decide) : (3 : Int32) < (4 : Int32))).2.2.2 zk) ?_
    refine Go.st (T' := T39) (g' := (mkF m 201 #[.val (.int x0), .val (.int x1), .val (.long x2), .second, .val (.int x3), .val (.int x4), .val (.int (0 : Int32)), .val (.ref l1), .val (.int (1 : Int32)), .val (.int (4 : Int32)), .val (.ref b6), .val (.int (Int32.ofNat pn)), .unset, .unset, .unset] [(.ref b6)])) (fun _ zk => XS.aload X39.here hx rfl (hb hby at_199) rfl rfl zk) ?_
    refine Go.st (T' := T39) (g' := (mkF m 203 #[.val (.int x0), .val (.int x1), .val (.long x2), .second, .val (.int x3), .val (.int x4), .val (.int (0 : Int32)), .val (.ref l1), .val (.int (1 : Int32)), .val (.int (4 : Int32)), .val (.ref b6), .val (.int (Int32.ofNat pn)), .unset, .unset, .unset] [(.int (Int32.ofNat pn)), (.ref b6)])) (fun _ zk => XS.iload X39.here hx rfl (hb hby at_201) rfl zk) ?_
    refine Go.st (T' := T39) (g' := (mkF m 204 #[.val (.int x0), .val (.int x1), .val (.long x2), .second, .val (.int x3), .val (.int x4), .val (.int (0 : Int32)), .val (.ref l1), .val (.int (1 : Int32)), .val (.int (4 : Int32)), .val (.ref b6), .val (.int (Int32.ofNat pn)), .unset, .unset, .unset] [(.int (3 : Int32)), (.int (Int32.ofNat pn)), (.ref b6)])) (fun _ zk => XS.iconst X39.here hx rfl (hb hby at_203) zk) ?_
    refine Go.st (T' := T39) (g' := (mkF m 205 #[.val (.int x0), .val (.int x1), .val (.long x2), .second, .val (.int x3), .val (.int x4), .val (.int (0 : Int32)), .val (.ref l1), .val (.int (1 : Int32)), .val (.int (4 : Int32)), .val (.ref b6), .val (.int (Int32.ofNat pn)), .unset, .unset, .unset] [(.int ((Int32.ofNat pn) + (3 : Int32))), (.ref b6)])) (fun _ zk => XS.iadd X39.here hx rfl (hb hby at_204) rfl zk) ?_
    rw [show Int32.ofNat pn + (3 : Int32) = Int32.ofNat (pn + 1 + 1 + 1) from (Int32.ofNat_add pn 3).symm]
    refine Go.st (T' := T39) (g' := (mkF m 207 #[.val (.int x0), .val (.int x1), .val (.long x2), .second, .val (.int x3), .val (.int x4), .val (.int (0 : Int32)), .val (.ref l1), .val (.int (1 : Int32)), .val (.int (4 : Int32)), .val (.ref b6), .val (.int (Int32.ofNat pn)), .unset, .unset, .unset] [(.ref l1), (.int (Int32.ofNat (pn + 1 + 1 + 1))), (.ref b6)])) (fun _ zk => XS.aload X39.here hx rfl (hb hby at_205) rfl rfl zk) ?_
    refine Go.st (T' := T39) (g' := (mkF m 208 #[.val (.int x0), .val (.int x1), .val (.long x2), .second, .val (.int x3), .val (.int x4), .val (.int (0 : Int32)), .val (.ref l1), .val (.int (1 : Int32)), .val (.int (4 : Int32)), .val (.ref b6), .val (.int (Int32.ofNat pn)), .unset, .unset, .unset] [(.int (3 : Int32)), (.ref l1), (.int (Int32.ofNat (pn + 1 + 1 + 1))), (.ref b6)])) (fun _ zk => XS.iconst X39.here hx rfl (hb hby at_207) zk) ?_
    have xt40 : Ext h1 h39 := (xt34.thenW W39 (Nat.le_of_eq g6.symm))
    have f41 := SL.ext xt40
    have f43 := (f37.wr W39 (Nat.le_trans Z0 (Nat.le_trans E1.1 (Nat.le_of_eq g6.symm))))
    have f44 := (f38.wr W39)
    refine Go.callV (y := (⟨"java/lang/String", "charAt", "(I)C"⟩ : MethodName)) (z := (⟨"java/lang/String", "charAt", "(I)C"⟩ : MethodName)) (C := "java/lang/String") (a := l1) X39 hx hZ hown e39 (w28 hw) (w29 hw) (w31 hw) (w30 hw) (w1 hw) (w32 hw) (notFace_of_selects (args := #[]) (mvT hZ (w31 hw))) (by decide) f44 (argsL := [(.int (3 : Int32))]) (rest := [(.int (Int32.ofNat (pn + 1 + 1 + 1))), (.ref b6)]) (W := 2) (rm_charAtG l Z a0 hw [] l1 [(116 : Int32), (114 : Int32), (117 : Int32), (101 : Int32)] 3 zc fm h39 n0 (Nat.le_trans Z0 (Nat.le_trans (Nat.le_trans (Nat.le_trans (Nat.le_trans (Nat.le_trans (Nat.le_trans (Nat.le_trans (Nat.le_trans (Nat.le_trans (Nat.le_trans (Nat.le_trans E1.1 E6.1) (Keep.of_wr W8).1) (Keep.of_wr W10).1) (Keep.of_wr W12).1) (Keep.of_wr W14).1) (Keep.of_wr W16).1) (Keep.of_wr W18).1) (Keep.of_wr W20).1) (Keep.of_wr W27).1) (Keep.of_wr W33).1) (Keep.of_wr W39).1)) f43 f41 (by decide) (by decide) CS hz FM rf) rfl (lenOf pd33 rfl) rfl (by rw [hml]; rfl) rfl (by show 2 * 0 + _ ≤ _; exact Nat.le_of_eq rfl) (by decide) (by decide) (by decide) (by decide) (hb hby at_208) ?_
    intro v42 T42 h42 L42 X42 e42 q42
    obtain ⟨hv42, Nf42, hh42⟩ := q42
    subst hv42
    have E42 : T42.heap = h39 := e42.trans hh42
    have N42 := Fr.app N39 Nf42
    show Go p.tables e below _ T42 (mkF m 211 #[.val (.int x0), .val (.int x1), .val (.long x2), .second, .val (.int x3), .val (.int x4), .val (.int (0 : Int32)), .val (.ref l1), .val (.int (1 : Int32)), .val (.int (4 : Int32)), .val (.ref b6), .val (.int (Int32.ofNat pn)), .unset, .unset, .unset] [(.int (((([(116 : Int32), (114 : Int32), (117 : Int32), (101 : Int32)] : List Int32).getD 3 0) &&& (255 : Int32)).toUInt32.toUInt16.toUInt32.toInt32)), (.int (Int32.ofNat (pn + 1 + 1 + 1))), (.ref b6)])
    rw [show (((([(116 : Int32), (114 : Int32), (117 : Int32), (101 : Int32)] : List Int32).getD 3 0) &&& (255 : Int32)).toUInt32.toUInt16.toUInt32.toInt32) = (101 : Int32) from by decide]
    obtain ⟨T45, h45, X45, e45, W45, V45, st45⟩ := stCV X42 hx hZ E42 V39 (j := (Int32.ofNat (pn + 1 + 1 + 1))) (i := (pn + 1 + 1 + 1)) ⟨own_ofn0 (by omega), own_oflt (n := 7) (by omega) (by omega)⟩ (own_clamp (by omega)) (by simp only [List.length_map, List.length_set, List.length_cons, List.length_nil]; omega) (g := (mkF m 211 #[.val (.int x0), .val (.int x1), .val (.long x2), .second, .val (.int x3), .val (.int x4), .val (.int (0 : Int32)), .val (.ref l1), .val (.int (1 : Int32)), .val (.int (4 : Int32)), .val (.ref b6), .val (.int (Int32.ofNat pn)), .unset, .unset, .unset] [(.int (101 : Int32)), (.int (Int32.ofNat (pn + 1 + 1 + 1))), (.ref b6)])) rfl rfl (hb hby at_211)
    rw [show nar .char (101 : Int32) = (101 : Int32) from by decide, ← List.map_set] at V45
    have N45 := Fr.snoc X45 N42 (Nat.le_trans Z0 (Nat.le_trans E1.1 (Nat.le_of_eq g6.symm)))
    refine Go.st (T' := T45) (g' := (mkF m 212 #[.val (.int x0), .val (.int x1), .val (.long x2), .second, .val (.int x3), .val (.int x4), .val (.int (0 : Int32)), .val (.ref l1), .val (.int (1 : Int32)), .val (.int (4 : Int32)), .val (.ref b6), .val (.int (Int32.ofNat pn)), .unset, .unset, .unset] [])) (fun _ zk => st45 _ zk) ?_
    refine Go.st (T' := T45) (g' := (mkF m 214 #[.val (.int x0), .val (.int x1), .val (.long x2), .second, .val (.int x3), .val (.int x4), .val (.int (0 : Int32)), .val (.ref l1), .val (.int (1 : Int32)), .val (.int (4 : Int32)), .val (.ref b6), .val (.int (Int32.ofNat pn)), .unset, .unset, .unset] [(.int (4 : Int32))])) (fun _ zk => XS.iload X45.here hx rfl (hb hby at_212) rfl zk) ?_
    refine Go.st (T' := T45) (g' := (mkF m 215 #[.val (.int x0), .val (.int x1), .val (.long x2), .second, .val (.int x3), .val (.int x4), .val (.int (0 : Int32)), .val (.ref l1), .val (.int (1 : Int32)), .val (.int (4 : Int32)), .val (.ref b6), .val (.int (Int32.ofNat pn)), .unset, .unset, .unset] [(.int (4 : Int32)), (.int (4 : Int32))])) (fun _ zk => XS.iconst X45.here hx rfl (hb hby at_214) zk) ?_
    refine Go.st (T' := T45) (g' := (mkF m 231 #[.val (.int x0), .val (.int x1), .val (.long x2), .second, .val (.int x3), .val (.int x4), .val (.int (0 : Int32)), .val (.ref l1), .val (.int (1 : Int32)), .val (.int (4 : Int32)), .val (.ref b6), .val (.int (Int32.ofNat pn)), .unset, .unset, .unset] [])) (fun _ zk => XS.icmpYes X45.here hx rfl (pc0 := 215) (pc' := 231) rfl (hb hby at_215) rfl (flt ((by decide) : ¬ ((4 : Int32) < (4 : Int32)))).2.2.2 (by decide) (by decide) zk) ?_
    refine Go.st (T' := T45) (g' := (mkF m 233 #[.val (.int x0), .val (.int x1), .val (.long x2), .second, .val (.int x3), .val (.int x4), .val (.int (0 : Int32)), .val (.ref l1), .val (.int (1 : Int32)), .val (.int (4 : Int32)), .val (.ref b6), .val (.int (Int32.ofNat pn)), .unset, .unset, .unset] [(.int x3)])) (fun _ zk => XS.iload X45.here hx rfl (hb hby at_231) rfl zk) ?_
    refine Go.st (T' := T45) (g' := (mkF m 234 #[.val (.int x0), .val (.int x1), .val (.long x2), .second, .val (.int x3), .val (.int x4), .val (.int (0 : Int32)), .val (.ref l1), .val (.int (1 : Int32)), .val (.int (4 : Int32)), .val (.ref b6), .val (.int (Int32.ofNat pn)), .unset, .unset, .unset] [(.int (1 : Int32)), (.int x3)])) (fun _ zk => XS.iconst X45.here hx rfl (hb hby at_233) zk) ?_
    refine Go.st (T' := T45) (g' := (mkF m 235 #[.val (.int x0), .val (.int x1), .val (.long x2), .second, .val (.int x3), .val (.int x4), .val (.int (0 : Int32)), .val (.ref l1), .val (.int (1 : Int32)), .val (.int (4 : Int32)), .val (.ref b6), .val (.int (Int32.ofNat pn)), .unset, .unset, .unset] [(.int (x3 &&& (1 : Int32)))])) (fun _ zk => XS.iand X45.here hx rfl (hb hby at_234) rfl zk) ?_
    by_cases hc235 : (x3 &&& (1 : Int32)) = (0 : Int32)
    · refine Go.st (T' := T45) (g' := (mkF m 250 #[.val (.int x0), .val (.int x1), .val (.long x2), .second, .val (.int x3), .val (.int x4), .val (.int (0 : Int32)), .val (.ref l1), .val (.int (1 : Int32)), .val (.int (4 : Int32)), .val (.ref b6), .val (.int (Int32.ofNat pn)), .unset, .unset, .unset] [])) (fun _ zk => XS.ifYes X45.here hx rfl (pc0 := 235) (pc' := 250) rfl (hb hby at_235) rfl ((if0 _ _).trans (teq hc235).1) (by decide) (by decide) zk) ?_
      refine Go.st (T' := T45) (g' := (mkF m 252 #[.val (.int x0), .val (.int x1), .val (.long x2), .second, .val (.int x3), .val (.int x4), .val (.int (0 : Int32)), .val (.ref l1), .val (.int (1 : Int32)), .val (.int (4 : Int32)), .val (.ref b6), .val (.int (Int32.ofNat pn)), .unset, .unset, .unset] [(.ref l1)])) (fun _ zk => XS.aload X45.here hx rfl (hb hby at_250) rfl rfl zk) ?_
      refine Go.st (T' := T45) (g' := (mkF m 254 #[.val (.int x0), .val (.int x1), .val (.long x2), .second, .val (.int x3), .val (.int x4), .val (.int (0 : Int32)), .val (.ref l1), .val (.int (1 : Int32)), .val (.int (4 : Int32)), .val (.ref b6), .val (.int (Int32.ofNat pn)), .val (.ref l1), .unset, .unset] [])) (fun _ zk => XS.astore X45.here hx rfl (hb hby at_252) rfl rfl (l' := #[.val (.int x0), .val (.int x1), .val (.long x2), .second, .val (.int x3), .val (.int x4), .val (.int (0 : Int32)), .val (.ref l1), .val (.int (1 : Int32)), .val (.int (4 : Int32)), .val (.ref b6), .val (.int (Int32.ofNat pn)), .val (.ref l1), .unset, .unset]) rfl zk) ?_
      refine Go.st (T' := T45) (g' := (mkF m 256 #[.val (.int x0), .val (.int x1), .val (.long x2), .second, .val (.int x3), .val (.int x4), .val (.int (0 : Int32)), .val (.ref l1), .val (.int (1 : Int32)), .val (.int (4 : Int32)), .val (.ref b6), .val (.int (Int32.ofNat pn)), .val (.ref l1), .unset, .unset] [(.int x4)])) (fun _ zk => XS.iload X45.here hx rfl (hb hby at_254) rfl zk) ?_
      refine Go.st (T' := T45) (g' := (mkF m 259 #[.val (.int x0), .val (.int x1), .val (.long x2), .second, .val (.int x3), .val (.int x4), .val (.int (0 : Int32)), .val (.ref l1), .val (.int (1 : Int32)), .val (.int (4 : Int32)), .val (.ref b6), .val (.int (Int32.ofNat pn)), .val (.ref l1), .unset, .unset] [(.int (255 : Int32)), (.int x4)])) (fun _ zk => XS.sipush X45.here hx rfl (hb hby at_256) zk) ?_
      refine Go.st (T' := T45) (g' := (mkF m 260 #[.val (.int x0), .val (.int x1), .val (.long x2), .second, .val (.int x3), .val (.int x4), .val (.int (0 : Int32)), .val (.ref l1), .val (.int (1 : Int32)), .val (.int (4 : Int32)), .val (.ref b6), .val (.int (Int32.ofNat pn)), .val (.ref l1), .unset, .unset] [(.int (x4 &&& (255 : Int32)))])) (fun _ zk => XS.iand X45.here hx rfl (hb hby at_259) rfl zk) ?_
      refine Go.st (T' := T45) (g' := (mkF m 261 #[.val (.int x0), .val (.int x1), .val (.long x2), .second, .val (.int x3), .val (.int x4), .val (.int (0 : Int32)), .val (.ref l1), .val (.int (1 : Int32)), .val (.int (4 : Int32)), .val (.ref b6), .val (.int (Int32.ofNat pn)), .val (.ref l1), .unset, .unset] [(.int ((x4 &&& (255 : Int32)).toUInt32.toUInt16.toUInt32.toInt32))])) (fun _ zk => XS.i2c X45.here hx rfl (hb hby at_260) rfl zk) ?_
      have f47 := (f43.wr W45 (Nat.le_trans Z0 (Nat.le_trans E1.1 (Nat.le_of_eq g6.symm))))
      refine Go.callSt (y := (⟨"java/lang/String", "valueOf", "(C)Ljava/lang/String;"⟩ : MethodName)) X45 hx hZ hown e45 (w50 hw) (w51 hw) (w1 hw) (w52 hw) (by decide) (argsL := [(.int ((x4 &&& (255 : Int32)).toUInt32.toUInt16.toUInt32.toInt32))]) (rest := []) (W := 0) (rm_valueOfC l Z a0 hw [] ((x4 &&& (255 : Int32)).toUInt32.toUInt16.toUInt32.toInt32) zc h45 n0 (Nat.le_trans Z0 (Nat.le_trans (Nat.le_trans (Nat.le_trans (Nat.le_trans (Nat.le_trans (Nat.le_trans (Nat.le_trans (Nat.le_trans (Nat.le_trans (Nat.le_trans (Nat.le_trans (Nat.le_trans E1.1 E6.1) (Keep.of_wr W8).1) (Keep.of_wr W10).1) (Keep.of_wr W12).1) (Keep.of_wr W14).1) (Keep.of_wr W16).1) (Keep.of_wr W18).1) (Keep.of_wr W20).1) (Keep.of_wr W27).1) (Keep.of_wr W33).1) (Keep.of_wr W39).1) (Keep.of_wr W45).1)) f47 (le255 (and255 x4)) CS hz) rfl (lenOf pd34 rfl) rfl (by rw [hml]; rfl) rfl (by show 2 * 0 + _ ≤ _; exact Nat.le_of_eq rfl) (by decide) (by decide) (by decide) (by decide) (hb hby at_261) ?_
      intro v46 T46 h46 L46 X46 e46 q46
      obtain ⟨a46, hv46, Nf46, E46, ge46, S46⟩ := q46
      subst hv46
      have N46 := Fr.app N45 Nf46
      show Go p.tables e below _ T46 (mkF m 264 #[.val (.int x0), .val (.int x1), .val (.long x2), .second, .val (.int x3), .val (.int x4), .val (.int (0 : Int32)), .val (.ref l1), .val (.int (1 : Int32)), .val (.int (4 : Int32)), .val (.ref b6), .val (.int (Int32.ofNat pn)), .val (.ref l1), .unset, .unset] [(.ref a46)])
      refine Go.st (T' := T46) (g' := (mkF m 266 #[.val (.int x0), .val (.int x1), .val (.long x2), .second, .val (.int x3), .val (.int x4), .val (.int (0 : Int32)), .val (.ref l1), .val (.int (1 : Int32)), .val (.int (4 : Int32)), .val (.ref b6), .val (.int (Int32.ofNat pn)), .val (.ref l1), .val (.ref a46), .unset] [])) (fun _ zk => XS.astore X46.here hx rfl (hb hby at_264) rfl rfl (l' := #[.val (.int x0), .val (.int x1), .val (.long x2), .second, .val (.int x3), .val (.int x4), .val (.int (0 : Int32)), .val (.ref l1), .val (.int (1 : Int32)), .val (.int (4 : Int32)), .val (.ref b6), .val (.int (Int32.ofNat pn)), .val (.ref l1), .val (.ref a46), .unset]) rfl zk) ?_
      refine Go.st (T' := T46) (g' := (mkF m 268 #[.val (.int x0), .val (.int x1), .val (.long x2), .second, .val (.int x3), .val (.int x4), .val (.int (0 : Int32)), .val (.ref l1), .val (.int (1 : Int32)), .val (.int (4 : Int32)), .val (.ref b6), .val (.int (Int32.ofNat pn)), .val (.ref l1), .val (.ref a46), .unset] [(.int x4)])) (fun _ zk => XS.iload X46.here hx rfl (hb hby at_266) rfl zk) ?_
      refine Go.st (T' := T46) (g' := (mkF m 270 #[.val (.int x0), .val (.int x1), .val (.long x2), .second, .val (.int x3), .val (.int x4), .val (.int (0 : Int32)), .val (.ref l1), .val (.int (1 : Int32)), .val (.int (4 : Int32)), .val (.ref b6), .val (.int (Int32.ofNat pn)), .val (.ref l1), .val (.ref a46), .unset] [(.int (8 : Int32)), (.int x4)])) (fun _ zk => XS.bipush X46.here hx rfl (hb hby at_268) zk) ?_
      refine Go.st (T' := T46) (g' := (mkF m 271 #[.val (.int x0), .val (.int x1), .val (.long x2), .second, .val (.int x3), .val (.int x4), .val (.int (0 : Int32)), .val (.ref l1), .val (.int (1 : Int32)), .val (.int (4 : Int32)), .val (.ref b6), .val (.int (Int32.ofNat pn)), .val (.ref l1), .val (.ref a46), .unset] [(.int ((x4.toUInt32 >>> ((8 : Int32) &&& 31).toUInt32).toInt32))])) (fun _ zk => XS.iushr X46.here hx rfl (hb hby at_270) rfl zk) ?_
      refine Go.st (T' := T46) (g' := (mkF m 274 #[.val (.int x0), .val (.int x1), .val (.long x2), .second, .val (.int x3), .val (.int x4), .val (.int (0 : Int32)), .val (.ref l1), .val (.int (1 : Int32)), .val (.int (4 : Int32)), .val (.ref b6), .val (.int (Int32.ofNat pn)), .val (.ref l1), .val (.ref a46), .unset] [(.int (255 : Int32)), (.int ((x4.toUInt32 >>> ((8 : Int32) &&& 31).toUInt32).toInt32))])) (fun _ zk => XS.sipush X46.here hx rfl (hb hby at_271) zk) ?_
      refine Go.st (T' := T46) (g' := (mkF m 275 #[.val (.int x0), .val (.int x1), .val (.long x2), .second, .val (.int x3), .val (.int x4), .val (.int (0 : Int32)), .val (.ref l1), .val (.int (1 : Int32)), .val (.int (4 : Int32)), .val (.ref b6), .val (.int (Int32.ofNat pn)), .val (.ref l1), .val (.ref a46), .unset] [(.int (((x4.toUInt32 >>> ((8 : Int32) &&& 31).toUInt32).toInt32) &&& (255 : Int32)))])) (fun _ zk => XS.iand X46.here hx rfl (hb hby at_274) rfl zk) ?_
      refine Go.st (T' := T46) (g' := (mkF m 276 #[.val (.int x0), .val (.int x1), .val (.long x2), .second, .val (.int x3), .val (.int x4), .val (.int (0 : Int32)), .val (.ref l1), .val (.int (1 : Int32)), .val (.int (4 : Int32)), .val (.ref b6), .val (.int (Int32.ofNat pn)), .val (.ref l1), .val (.ref a46), .unset] [(.int ((((x4.toUInt32 >>> ((8 : Int32) &&& 31).toUInt32).toInt32) &&& (255 : Int32)).toUInt32.toUInt16.toUInt32.toInt32))])) (fun _ zk => XS.i2c X46.here hx rfl (hb hby at_275) rfl zk) ?_
      have xt49 : Ext h45 h46 := E46
      have f50 := f47.ext xt49
      refine Go.callSt (y := (⟨"java/lang/String", "valueOf", "(C)Ljava/lang/String;"⟩ : MethodName)) X46 hx hZ hown e46 (w50 hw) (w51 hw) (w1 hw) (w52 hw) (by decide) (argsL := [(.int ((((x4.toUInt32 >>> ((8 : Int32) &&& 31).toUInt32).toInt32) &&& (255 : Int32)).toUInt32.toUInt16.toUInt32.toInt32))]) (rest := []) (W := 0) (rm_valueOfC l Z a0 hw [] ((((x4.toUInt32 >>> ((8 : Int32) &&& 31).toUInt32).toInt32) &&& (255 : Int32)).toUInt32.toUInt16.toUInt32.toInt32) zc h46 n0 (Nat.le_trans Z0 (Nat.le_trans (Nat.le_trans (Nat.le_trans (Nat.le_trans (Nat.le_trans (Nat.le_trans (Nat.le_trans (Nat.le_trans (Nat.le_trans (Nat.le_trans (Nat.le_trans (Nat.le_trans (Nat.le_trans E1.1 E6.1) (Keep.of_wr W8).1) (Keep.of_wr W10).1) (Keep.of_wr W12).1) (Keep.of_wr W14).1) (Keep.of_wr W16).1) (Keep.of_wr W18).1) (Keep.of_wr W20).1) (Keep.of_wr W27).1) (Keep.of_wr W33).1) (Keep.of_wr W39).1) (Keep.of_wr W45).1) E46.1)) f50 (le255 (and255 ((x4.toUInt32 >>> ((8 : Int32) &&& 31).toUInt32).toInt32))) CS hz) rfl (lenOf pd34 rfl) rfl (by rw [hml]; rfl) rfl (by show 2 * 0 + _ ≤ _; exact Nat.le_of_eq rfl) (by decide) (by decide) (by decide) (by decide) (hb hby at_276) ?_
      intro v48 T48 h48 L48 X48 e48 q48
      obtain ⟨a48, hv48, Nf48, E48, ge48, S48⟩ := q48
      subst hv48
      have N48 := Fr.app N46 Nf48
      show Go p.tables e below _ T48 (mkF m 279 #[.val (.int x0), .val (.int x1), .val (.long x2), .second, .val (.int x3), .val (.int x4), .val (.int (0 : Int32)), .val (.ref l1), .val (.int (1 : Int32)), .val (.int (4 : Int32)), .val (.ref b6), .val (.int (Int32.ofNat pn)), .val (.ref l1), .val (.ref a46), .unset] [(.ref a48)])
      refine Go.st (T' := T48) (g' := (mkF m 281 #[.val (.int x0), .val (.int x1), .val (.long x2), .second, .val (.int x3), .val (.int x4), .val (.int (0 : Int32)), .val (.ref l1), .val (.int (1 : Int32)), .val (.int (4 : Int32)), .val (.ref b6), .val (.int (Int32.ofNat pn)), .val (.ref l1), .val (.ref a46), .val (.ref a48)] [])) (fun _ zk => XS.astore X48.here hx rfl (hb hby at_279) rfl rfl (l' := #[.val (.int x0), .val (.int x1), .val (.long x2), .second, .val (.int x3), .val (.int x4), .val (.int (0 : Int32)), .val (.ref l1), .val (.int (1 : Int32)), .val (.int (4 : Int32)), .val (.ref b6), .val (.int (Int32.ofNat pn)), .val (.ref l1), .val (.ref a46), .val (.ref a48)]) rfl zk) ?_
      refine Go.st (T' := T48) (g' := (mkF m 283 #[.val (.int x0), .val (.int x1), .val (.long x2), .second, .val (.int x3), .val (.int x4), .val (.int (0 : Int32)), .val (.ref l1), .val (.int (1 : Int32)), .val (.int (4 : Int32)), .val (.ref b6), .val (.int (Int32.ofNat pn)), .val (.ref l1), .val (.ref a46), .val (.ref a48)] [(.ref a46)])) (fun _ zk => XS.aload X48.here hx rfl (hb hby at_281) rfl rfl zk) ?_
      refine Go.st (T' := T48) (g' := (mkF m 285 #[.val (.int x0), .val (.int x1), .val (.long x2), .second, .val (.int x3), .val (.int x4), .val (.int (0 : Int32)), .val (.ref l1), .val (.int (1 : Int32)), .val (.int (4 : Int32)), .val (.ref b6), .val (.int (Int32.ofNat pn)), .val (.ref l1), .val (.ref a46), .val (.ref a48)] [(.ref a48), (.ref a46)])) (fun _ zk => XS.aload X48.here hx rfl (hb hby at_283) rfl rfl zk) ?_
      refine Go.st (T' := T48) (g' := (mkF m 287 #[.val (.int x0), .val (.int x1), .val (.long x2), .second, .val (.int x3), .val (.int x4), .val (.int (0 : Int32)), .val (.ref l1), .val (.int (1 : Int32)), .val (.int (4 : Int32)), .val (.ref b6), .val (.int (Int32.ofNat pn)), .val (.ref l1), .val (.ref a46), .val (.ref a48)] [(.ref l1), (.ref a48), (.ref a46)])) (fun _ zk => XS.aload X48.here hx rfl (hb hby at_285) rfl rfl zk) ?_
      have xt51 : Ext h1 h48 := (((xt40.thenW W45 (Nat.le_of_eq g6.symm)).tr E46).tr E48)
      have f52 := SL.ext xt51
      have xt54 : Ext h46 h48 := E48
      have f55 := f50.ext xt54
      have cr56 := chrE ca2 xt51
      refine Go.callStS (y := (⟨"com/example/tokenweave/tokenweave/engine/BpmnReader", "xmlBoolean", "(Ljava/lang/String;Ljava/lang/String;Ljava/lang/String;)Z"⟩ : MethodName)) X48 hx hZ hown e48 hEL cr56.1 hS (Nat.le_trans hk1 (Nat.le_trans (Nat.le_trans (Nat.le_trans (Nat.le_trans (Nat.le_trans (Nat.le_trans (Nat.le_trans (Nat.le_trans (Nat.le_trans (Nat.le_trans (Nat.le_trans (Nat.le_trans (Nat.le_trans E6.1 (Keep.of_wr W8).1) (Keep.of_wr W10).1) (Keep.of_wr W12).1) (Keep.of_wr W14).1) (Keep.of_wr W16).1) (Keep.of_wr W18).1) (Keep.of_wr W20).1) (Keep.of_wr W27).1) (Keep.of_wr W33).1) (Keep.of_wr W39).1) (Keep.of_wr W45).1) E46.1) E48.1)) (w67 hw) (w68 hw) (w69 hw) (w70 hw) (by decide) (argsL := [(.ref a46), (.ref a48), (.ref l1)]) (rest := []) (W := 0) (rm_xmlBool l Z a0 hw [] a46 a48 l1 [(116 : Int32), (114 : Int32), (117 : Int32), (101 : Int32)] [(116 : Int32), (114 : Int32), (117 : Int32), (101 : Int32)] 0 4 zc ci dA kA h48 n0 (Nat.le_trans Z0 (Nat.le_trans (Nat.le_trans (Nat.le_trans (Nat.le_trans (Nat.le_trans (Nat.le_trans (Nat.le_trans (Nat.le_trans (Nat.le_trans (Nat.le_trans (Nat.le_trans (Nat.le_trans (Nat.le_trans (Nat.le_trans E1.1 E6.1) (Keep.of_wr W8).1) (Keep.of_wr W10).1) (Keep.of_wr W12).1) (Keep.of_wr W14).1) (Keep.of_wr W16).1) (Keep.of_wr W18).1) (Keep.of_wr W20).1) (Keep.of_wr W27).1) (Keep.of_wr W33).1) (Keep.of_wr W39).1) (Keep.of_wr W45).1) E46.1) E48.1)) f55 f52 (by decide) (by decide) (by decide) (by decide) (fun i q => absurd q (Nat.not_lt_zero _)) (by unfold WS; decide +kernel) (fun i q1 q2 => absurd q2 (Nat.not_lt_of_le q1)) (by unfold WS; decide +kernel) rfl (Or.inl rfl) CS hz SI EI SA FA) all0 rfl (lenOf pd35 rfl) rfl (by rw [hml]; rfl) rfl (by show 2 * 0 + _ ≤ _; exact Nat.le_of_eq rfl) (by decide) (by decide) (by decide) (by decide) (hb hby at_287) ?_
      intro v53 T53 h53 L53 X53 e53 q53 hS hZ hown cr53
      obtain ⟨rx, hv53, hcase, Nf53, E53⟩ := q53
      subst hv53
      have N53 := Fr.app N48 Nf53
      have hrx : rx = (1 : Int32) := by
        rcases hcase with z | z
        · exact z.1
        · exact absurd z.2 (by decide)
      have ca57 := cr56.trans cr53
      show Go p.tables e below _ T53 (mkF m 290 #[.val (.int x0), .val (.int x1), .val (.long x2), .second, .val (.int x3), .val (.int x4), .val (.int (0 : Int32)), .val (.ref l1), .val (.int (1 : Int32)), .val (.int (4 : Int32)), .val (.ref b6), .val (.int (Int32.ofNat pn)), .val (.ref l1), .val (.ref a46), .val (.ref a48)] [(.int rx)])
      refine Go.st (T' := T53) (g' := (mkF m 292 #[.val (.int x0), .val (.int x1), .val (.long x2), .second, .val (.int x3), .val (.int x4), .val (.int (0 : Int32)), .val (.ref l1), .val (.int (1 : Int32)), .val (.int (4 : Int32)), .val (.ref b6), .val (.int (Int32.ofNat pn)), .val (.ref l1), .val (.ref a46), .val (.ref a48)] [(.int (1 : Int32)), (.int rx)])) (fun _ zk => XS.iload X53.here hx rfl (hb hby at_290) rfl zk) ?_
      refine Go.st (T' := T53) (g' := (mkF m 295 #[.val (.int x0), .val (.int x1), .val (.long x2), .second, .val (.int x3), .val (.int x4), .val (.int (0 : Int32)), .val (.ref l1), .val (.int (1 : Int32)), .val (.int (4 : Int32)), .val (.ref b6), .val (.int (Int32.ofNat pn)), .val (.ref l1), .val (.ref a46), .val (.ref a48)] [])) (fun _ zk => XS.icmpNo X53.here hx rfl (hb hby at_292) rfl (teq (hrx : rx = (1 : Int32))).2 zk) ?_
      refine Go.st (T' := T53) (g' := (mkF m 296 #[.val (.int x0), .val (.int x1), .val (.long x2), .second, .val (.int x3), .val (.int x4), .val (.int (0 : Int32)), .val (.ref l1), .val (.int (1 : Int32)), .val (.int (4 : Int32)), .val (.ref b6), .val (.int (Int32.ofNat pn)), .val (.ref l1), .val (.ref a46), .val (.ref a48)] [(.int (1 : Int32))])) (fun _ zk => XS.iconst X53.here hx rfl (hb hby at_295) zk) ?_
      refine Go.st (T' := T53) (g' := (mkF m 300 #[.val (.int x0), .val (.int x1), .val (.long x2), .second, .val (.int x3), .val (.int x4), .val (.int (0 : Int32)), .val (.ref l1), .val (.int (1 : Int32)), .val (.int (4 : Int32)), .val (.ref b6), .val (.int (Int32.ofNat pn)), .val (.ref l1), .val (.ref a46), .val (.ref a48)] [(.int (1 : Int32))])) (fun _ zk => XS.goto X53.here hx rfl (pc0 := 296) (pc' := 300) rfl (hb hby at_296) (by decide) (by decide) zk) ?_
      refine Go.retNS X53 hx hlk hS (Nat.le_refl _) ca57 hZ hEL hret rfl (by simp) (hb hby at_300) (by decide) (by decide) e53 ?_
      exact ⟨rfl, N53⟩
    · refine Go.st (T' := T45) (g' := (mkF m 238 #[.val (.int x0), .val (.int x1), .val (.long x2), .second, .val (.int x3), .val (.int x4), .val (.int (0 : Int32)), .val (.ref l1), .val (.int (1 : Int32)), .val (.int (4 : Int32)), .val (.ref b6), .val (.int (Int32.ofNat pn)), .unset, .unset, .unset] [])) (fun _ zk => XS.ifNo X45.here hx rfl (hb hby at_235) rfl ((if0 _ _).trans (feq hc235).1) zk) ?_
      obtain ⟨T58, h58, X58, e58, E58, A58, D58, -, st58⟩ := newO X45 hx hZ hown (w108 hw) (w2 hw) (w1 hw) e45 (g := (mkF m 238 #[.val (.int x0), .val (.int x1), .val (.long x2), .second, .val (.int x3), .val (.int x4), .val (.int (0 : Int32)), .val (.ref l1), .val (.int (1 : Int32)), .val (.int (4 : Int32)), .val (.ref b6), .val (.int (Int32.ofNat pn)), .unset, .unset, .unset] [])) rfl (hb hby at_238) (by decide) (by decide)
      obtain ⟨b58, g58⟩ : ∃ z, z = h45.size := ⟨_, rfl⟩
      rw [← g58] at A58 D58 st58
      have F58_value : Fld Z h58 b58 "java/lang/String" "value" "[B" .null := D58 (Or.inr (w4 hw)) (ty := (.array .byte)) (by decide)
      have F58_coder : Fld Z h58 b58 "java/lang/String" "coder" "B" (.int (0 : Int32)) := D58 (Or.inr (w5 hw)) (ty := .byte) (by decide)
      refine Go.st (T' := T58) (g' := (mkF m 241 #[.val (.int x0), .val (.int x1), .val (.long x2), .second, .val (.int x3), .val (.int x4), .val (.int (0 : Int32)), .val (.ref l1), .val (.int (1 : Int32)), .val (.int (4 : Int32)), .val (.ref b6), .val (.int (Int32.ofNat pn)), .unset, .unset, .unset] [(.ref b58)])) (fun _ zk => st58 _ zk) ?_
      refine Go.st (T' := T58) (g' := (mkF m 242 #[.val (.int x0), .val (.int x1), .val (.long x2), .second, .val (.int x3), .val (.int x4), .val (.int (0 : Int32)), .val (.ref l1), .val (.int (1 : Int32)), .val (.int (4 : Int32)), .val (.ref b6), .val (.int (Int32.ofNat pn)), .unset, .unset, .unset] [(.ref b58), (.ref b58)])) (fun _ zk => XS.dup X58.here hx rfl (hb hby at_241) rfl rfl zk) ?_
      refine Go.st (T' := T58) (g' := (mkF m 244 #[.val (.int x0), .val (.int x1), .val (.long x2), .second, .val (.int x3), .val (.int x4), .val (.int (0 : Int32)), .val (.ref l1), .val (.int (1 : Int32)), .val (.int (4 : Int32)), .val (.ref b6), .val (.int (Int32.ofNat pn)), .unset, .unset, .unset] [(.ref b6), (.ref b58), (.ref b58)])) (fun _ zk => XS.aload X58.here hx rfl (hb hby at_242) rfl rfl zk) ?_
      have xt59 : Ext h45 h58 := E58
      have f60 := V45.ext xt59
      have f62 := ((f43.wr W45 (Nat.le_trans Z0 (Nat.le_trans E1.1 (Nat.le_of_eq g6.symm)))).ext E58)
      refine Go.callSp (y := (⟨"java/lang/String", "<init>", "([C)V"⟩ : MethodName)) (a := b58) X58 hx hZ hown e58 rfl (w109 hw) (w110 hw) (w1 hw) (w111 hw) (by decide) (argsL := [(.ref b6)]) (rest := [(.ref b58)]) (W := 1) (rm_init1L l Z a0 hw [] b58 b6 k6 (putAt [sp0, sp1, sp2, sp3, sp4, sp5, sp6] pn [(116 : Int32), (114 : Int32), (117 : Int32), (101 : Int32)]) 7 zc h58 n0 (Nat.le_trans Z0 (Nat.le_trans (Nat.le_trans (Nat.le_trans (Nat.le_trans (Nat.le_trans (Nat.le_trans (Nat.le_trans (Nat.le_trans (Nat.le_trans (Nat.le_trans (Nat.le_trans (Nat.le_trans (Nat.le_trans E1.1 E6.1) (Keep.of_wr W8).1) (Keep.of_wr W10).1) (Keep.of_wr W12).1) (Keep.of_wr W14).1) (Keep.of_wr W16).1) (Keep.of_wr W18).1) (Keep.of_wr W20).1) (Keep.of_wr W27).1) (Keep.of_wr W33).1) (Keep.of_wr W39).1) (Keep.of_wr W45).1) E58.1)) f62 A58 (Nat.le_trans Z0 (Nat.le_trans (Nat.le_trans (Nat.le_trans (Nat.le_trans (Nat.le_trans (Nat.le_trans (Nat.le_trans (Nat.le_trans (Nat.le_trans (Nat.le_trans (Nat.le_trans (Nat.le_trans (Nat.le_trans E1.1 E6.1) (Keep.of_wr W8).1) (Keep.of_wr W10).1) (Keep.of_wr W12).1) (Keep.of_wr W14).1) (Keep.of_wr W16).1) (Keep.of_wr W18).1) (Keep.of_wr W20).1) (Keep.of_wr W27).1) (Keep.of_wr W33).1) (Keep.of_wr W39).1) (Keep.of_wr W45).1) (Nat.le_of_eq g58.symm))) F58_coder F58_value f60 (by decide) (putAt_len _ _ _) (by decide) (by decide) (own_bufle rfl hwl own_tok0 (by show pn + 4 ≤ 7; omega)) CS hz) rfl (lenOf pd36 rfl) rfl (by rw [hml]; rfl) rfl (by show 2 * 0 + _ ≤ _; exact Nat.le_of_eq rfl) (by decide) (by decide) (by decide) (by decide) (hb hby at_244) ?_
      intro v61 T61 h61 L61 X61 e61 q61
      obtain ⟨hv61, Nf61, K61, xs, hx1, hx2, SN⟩ := q61
      subst hv61
      have N61 := Fr.app N45 Nf61
      show Go p.tables e below _ T61 (mkF m 247 #[.val (.int x0), .val (.int x1), .val (.long x2), .second, .val (.int x3), .val (.int x4), .val (.int (0 : Int32)), .val (.ref l1), .val (.int (1 : Int32)), .val (.int (4 : Int32)), .val (.ref b6), .val (.int (Int32.ofNat pn)), .unset, .unset, .unset] [(.ref b58)])
      have hbuf := own_buf (p := pn) rfl hwl own_tok0 (by decide) (by show pn + 4 ≤ 7; omega) hx1 hx2
      refine Go.st (T' := T61) (g' := (mkF m 252 #[.val (.int x0), .val (.int x1), .val (.long x2), .second, .val (.int x3), .val (.int x4), .val (.int (0 : Int32)), .val (.ref l1), .val (.int (1 : Int32)), .val (.int (4 : Int32)), .val (.ref b6), .val (.int (Int32.ofNat pn)), .unset, .unset, .unset] [(.ref b58)])) (fun _ zk => XS.goto X61.here hx rfl (pc0 := 247) (pc' := 252) rfl (hb hby at_247) (by decide) (by decide) zk) ?_
      refine Go.st (T' := T61) (g' := (mkF m 254 #[.val (.int x0), .val (.int x1), .val (.long x2), .second, .val (.int x3), .val (.int x4), .val (.int (0 : Int32)), .val (.ref l1), .val (.int (1 : Int32)), .val (.int (4 : Int32)), .val (.ref b6), .val (.int (Int32.ofNat pn)), .val (.ref b58), .unset, .unset] [])) (fun _ zk => XS.astore X61.here hx rfl (hb hby at_252) rfl rfl (l' := #[.val (.int x0), .val (.int x1), .val (.long x2), .second, .val (.int x3), .val (.int x4), .val (.int (0 : Int32)), .val (.ref l1), .val (.int (1 : Int32)), .val (.int (4 : Int32)), .val (.ref b6), .val (.int (Int32.ofNat pn)), .val (.ref b58), .unset, .unset]) rfl zk) ?_
      refine Go.st (T' := T61) (g' := (mkF m 256 #[.val (.int x0), .val (.int x1), .val (.long x2), .second, .val (.int x3), .val (.int x4), .val (.int (0 : Int32)), .val (.ref l1), .val (.int (1 : Int32)), .val (.int (4 : Int32)), .val (.ref b6), .val (.int (Int32.ofNat pn)), .val (.ref b58), .unset, .unset] [(.int x4)])) (fun _ zk => XS.iload X61.here hx rfl (hb hby at_254) rfl zk) ?_
      refine Go.st (T' := T61) (g' := (mkF m 259 #[.val (.int x0), .val (.int x1), .val (.long x2), .second, .val (.int x3), .val (.int x4), .val (.int (0 : Int32)), .val (.ref l1), .val (.int (1 : Int32)), .val (.int (4 : Int32)), .val (.ref b6), .val (.int (Int32.ofNat pn)), .val (.ref b58), .unset, .unset] [(.int (255 : Int32)), (.int x4)])) (fun _ zk => XS.sipush X61.here hx rfl (hb hby at_256) zk) ?_
      refine Go.st (T' := T61) (g' := (mkF m 260 #[.val (.int x0), .val (.int x1), .val (.long x2), .second, .val (.int x3), .val (.int x4), .val (.int (0 : Int32)), .val (.ref l1), .val (.int (1 : Int32)), .val (.int (4 : Int32)), .val (.ref b6), .val (.int (Int32.ofNat pn)), .val (.ref b58), .unset, .unset] [(.int (x4 &&& (255 : Int32)))])) (fun _ zk => XS.iand X61.here hx rfl (hb hby at_259) rfl zk) ?_
      refine Go.st (T' := T61) (g' := (mkF m 261 #[.val (.int x0), .val (.int x1), .val (.long x2), .second, .val (.int x3), .val (.int x4), .val (.int (0 : Int32)), .val (.ref l1), .val (.int (1 : Int32)), .val (.int (4 : Int32)), .val (.ref b6), .val (.int (Int32.ofNat pn)), .val (.ref b58), .unset, .unset] [(.int ((x4 &&& (255 : Int32)).toUInt32.toUInt16.toUInt32.toInt32))])) (fun _ zk => XS.i2c X61.here hx rfl (hb hby at_260) rfl zk) ?_
      have f64 := (f62.keep K61 (allS (Nat.le_trans Z0 (Nat.le_trans (Nat.le_trans (Nat.le_trans (Nat.le_trans (Nat.le_trans (Nat.le_trans (Nat.le_trans (Nat.le_trans (Nat.le_trans (Nat.le_trans (Nat.le_trans (Nat.le_trans (Nat.le_trans E1.1 E6.1) (Keep.of_wr W8).1) (Keep.of_wr W10).1) (Keep.of_wr W12).1) (Keep.of_wr W14).1) (Keep.of_wr W16).1) (Keep.of_wr W18).1) (Keep.of_wr W20).1) (Keep.of_wr W27).1) (Keep.of_wr W33).1) (Keep.of_wr W39).1) (Keep.of_wr W45).1) (Nat.le_of_eq g58.symm))) all0))
      refine Go.callSt (y := (⟨"java/lang/String", "valueOf", "(C)Ljava/lang/String;"⟩ : MethodName)) X61 hx hZ hown e61 (w50 hw) (w51 hw) (w1 hw) (w52 hw) (by decide) (argsL := [(.int ((x4 &&& (255 : Int32)).toUInt32.toUInt16.toUInt32.toInt32))]) (rest := []) (W := 0) (rm_valueOfC l Z a0 hw [] ((x4 &&& (255 : Int32)).toUInt32.toUInt16.toUInt32.toInt32) zc h61 n0 (Nat.le_trans Z0 (Nat.le_trans (Nat.le_trans (Nat.le_trans (Nat.le_trans (Nat.le_trans (Nat.le_trans (Nat.le_trans (Nat.le_trans (Nat.le_trans (Nat.le_trans (Nat.le_trans (Nat.le_trans (Nat.le_trans (Nat.le_trans E1.1 E6.1) (Keep.of_wr W8).1) (Keep.of_wr W10).1) (Keep.of_wr W12).1) (Keep.of_wr W14).1) (Keep.of_wr W16).1) (Keep.of_wr W18).1) (Keep.of_wr W20).1) (Keep.of_wr W27).1) (Keep.of_wr W33).1) (Keep.of_wr W39).1) (Keep.of_wr W45).1) E58.1) K61.1)) f64 (le255 (and255 x4)) CS hz) rfl (lenOf pd34 rfl) rfl (by rw [hml]; rfl) rfl (by show 2 * 0 + _ ≤ _; exact Nat.le_of_eq rfl) (by decide) (by decide) (by decide) (by decide) (hb hby at_261) ?_
      intro v63 T63 h63 L63 X63 e63 q63
      obtain ⟨a63, hv63, Nf63, E63, ge63, S63⟩ := q63
      subst hv63
      have N63 := Fr.app N61 Nf63
      show Go p.tables e below _ T63 (mkF m 264 #[.val (.int x0), .val (.int x1), .val (.long x2), .second, .val (.int x3), .val (.int x4), .val (.int (0 : Int32)), .val (.ref l1), .val (.int (1 : Int32)), .val (.int (4 : Int32)), .val (.ref b6), .val (.int (Int32.ofNat pn)), .val (.ref b58), .unset, .unset] [(.ref a63)])
      refine Go.st (T' := T63) (g' := (mkF m 266 #[.val (.int x0), .val (.int x1), .val (.long x2), .second, .val (.int x3), .val (.int x4), .val (.int (0 : Int32)), .val (.ref l1), .val (.int (1 : Int32)), .val (.int (4 : Int32)), .val (.ref b6), .val (.int (Int32.ofNat pn)), .val (.ref b58), .val (.ref a63), .unset] [])) (fun _ zk => XS.astore X63.here hx rfl (hb hby at_264) rfl rfl (l' := #[.val (.int x0), .val (.int x1), .val (.long x2), .second, .val (.int x3), .val (.int x4), .val (.int (0 : Int32)), .val (.ref l1), .val (.int (1 : Int32)), .val (.int (4 : Int32)), .val (.ref b6), .val (.int (Int32.ofNat pn)), .val (.ref b58), .val (.ref a63), .unset]) rfl zk) ?_
      refine Go.st (T' := T63) (g' := (mkF m 268 #[.val (.int x0), .val (.int x1), .val (.long x2), .second, .val (.int x3), .val (.int x4), .val (.int (0 : Int32)), .val (.ref l1), .val (.int (1 : Int32)), .val (.int (4 : Int32)), .val (.ref b6), .val (.int (Int32.ofNat pn)), .val (.ref b58), .val (.ref a63), .unset] [(.int x4)])) (fun _ zk => XS.iload X63.here hx rfl (hb hby at_266) rfl zk) ?_
      refine Go.st (T' := T63) (g' := (mkF m 270 #[.val (.int x0), .val (.int x1), .val (.long x2), .second, .val (.int x3), .val (.int x4), .val (.int (0 : Int32)), .val (.ref l1), .val (.int (1 : Int32)), .val (.int (4 : Int32)), .val (.ref b6), .val (.int (Int32.ofNat pn)), .val (.ref b58), .val (.ref a63), .unset] [(.int (8 : Int32)), (.int x4)])) (fun _ zk => XS.bipush X63.here hx rfl (hb hby at_268) zk) ?_
      refine Go.st (T' := T63) (g' := (mkF m 271 #[.val (.int x0), .val (.int x1), .val (.long x2), .second, .val (.int x3), .val (.int x4), .val (.int (0 : Int32)), .val (.ref l1), .val (.int (1 : Int32)), .val (.int (4 : Int32)), .val (.ref b6), .val (.int (Int32.ofNat pn)), .val (.ref b58), .val (.ref a63), .unset] [(.int ((x4.toUInt32 >>> ((8 : Int32) &&& 31).toUInt32).toInt32))])) (fun _ zk => XS.iushr X63.here hx rfl (hb hby at_270) rfl zk) ?_
      refine Go.st (T' := T63) (g' := (mkF m 274 #[.val (.int x0), .val (.int x1), .val (.long x2), .second, .val (.int x3), .val (.int x4), .val (.int (0 : Int32)), .val (.ref l1), .val (.int (1 : Int32)), .val (.int (4 : Int32)), .val (.ref b6), .val (.int (Int32.ofNat pn)), .val (.ref b58), .val (.ref a63), .unset] [(.int (255 : Int32)), (.int ((x4.toUInt32 >>> ((8 : Int32) &&& 31).toUInt32).toInt32))])) (fun _ zk => XS.sipush X63.here hx rfl (hb hby at_271) zk) ?_
      refine Go.st (T' := T63) (g' := (mkF m 275 #[.val (.int x0), .val (.int x1), .val (.long x2), .second, .val (.int x3), .val (.int x4), .val (.int (0 : Int32)), .val (.ref l1), .val (.int (1 : Int32)), .val (.int (4 : Int32)), .val (.ref b6), .val (.int (Int32.ofNat pn)), .val (.ref b58), .val (.ref a63), .unset] [(.int (((x4.toUInt32 >>> ((8 : Int32) &&& 31).toUInt32).toInt32) &&& (255 : Int32)))])) (fun _ zk => XS.iand X63.here hx rfl (hb hby at_274) rfl zk) ?_
      refine Go.st (T' := T63) (g' := (mkF m 276 #[.val (.int x0), .val (.int x1), .val (.long x2), .second, .val (.int x3), .val (.int x4), .val (.int (0 : Int32)), .val (.ref l1), .val (.int (1 : Int32)), .val (.int (4 : Int32)), .val (.ref b6), .val (.int (Int32.ofNat pn)), .val (.ref b58), .val (.ref a63), .unset] [(.int ((((x4.toUInt32 >>> ((8 : Int32) &&& 31).toUInt32).toInt32) &&& (255 : Int32)).toUInt32.toUInt16.toUInt32.toInt32))])) (fun _ zk => XS.i2c X63.here hx rfl (hb hby at_275) rfl zk) ?_
      have xt66 : Ext h61 h63 := E63
      have f67 := f64.ext xt66
      refine Go.callSt (y := (⟨"java/lang/String", "valueOf", "(C)Ljava/lang/String;"⟩ : MethodName)) X63 hx hZ hown e63 (w50 hw) (w51 hw) (w1 hw) (w52 hw) (by decide) (argsL := [(.int ((((x4.toUInt32 >>> ((8 : Int32) &&& 31).toUInt32).toInt32) &&& (255 : Int32)).toUInt32.toUInt16.toUInt32.toInt32))]) (rest := []) (W := 0) (rm_valueOfC l Z a0 hw [] ((((x4.toUInt32 >>> ((8 : Int32) &&& 31).toUInt32).toInt32) &&& (255 : Int32)).toUInt32.toUInt16.toUInt32.toInt32) zc h63 n0 (Nat.le_trans Z0 (Nat.le_trans (Nat.le_trans (Nat.le_trans (Nat.le_trans (Nat.le_trans (Nat.le_trans (Nat.le_trans (Nat.le_trans (Nat.le_trans (Nat.le_trans (Nat.le_trans (Nat.le_trans (Nat.le_trans (Nat.le_trans (Nat.le_trans E1.1 E6.1) (Keep.of_wr W8).1) (Keep.of_wr W10).1) (Keep.of_wr W12).1) (Keep.of_wr W14).1) (Keep.of_wr W16).1) (Keep.of_wr W18).1) (Keep.of_wr W20).1) (Keep.of_wr W27).1) (Keep.of_wr W33).1) (Keep.of_wr W39).1) (Keep.of_wr W45).1) E58.1) K61.1) E63.1)) f67 (le255 (and255 ((x4.toUInt32 >>> ((8 : Int32) &&& 31).toUInt32).toInt32))) CS hz) rfl (lenOf pd34 rfl) rfl (by rw [hml]; rfl) rfl (by show 2 * 0 + _ ≤ _; exact Nat.le_of_eq rfl) (by decide) (by decide) (by decide) (by decide) (hb hby at_276) ?_
      intro v65 T65 h65 L65 X65 e65 q65
      obtain ⟨a65, hv65, Nf65, E65, ge65, S65⟩ := q65
      subst hv65
      have N65 := Fr.app N63 Nf65
      show Go p.tables e below _ T65 (mkF m 279 #[.val (.int x0), .val (.int x1), .val (.long x2), .second, .val (.int x3), .val (.int x4), .val (.int (0 : Int32)), .val (.ref l1), .val (.int (1 : Int32)), .val (.int (4 : Int32)), .val (.ref b6), .val (.int (Int32.ofNat pn)), .val (.ref b58), .val (.ref a63), .unset] [(.ref a65)])
      refine Go.st (T' := T65) (g' := (mkF m 281 #[.val (.int x0), .val (.int x1), .val (.long x2), .second, .val (.int x3), .val (.int x4), .val (.int (0 : Int32)), .val (.ref l1), .val (.int (1 : Int32)), .val (.int (4 : Int32)), .val (.ref b6), .val (.int (Int32.ofNat pn)), .val (.ref b58), .val (.ref a63), .val (.ref a65)] [])) (fun _ zk => XS.astore X65.here hx rfl (hb hby at_279) rfl rfl (l' := #[.val (.int x0), .val (.int x1), .val (.long x2), .second, .val (.int x3), .val (.int x4), .val (.int (0 : Int32)), .val (.ref l1), .val (.int (1 : Int32)), .val (.int (4 : Int32)), .val (.ref b6), .val (.int (Int32.ofNat pn)), .val (.ref b58), .val (.ref a63), .val (.ref a65)]) rfl zk) ?_
      refine Go.st (T' := T65) (g' := (mkF m 283 #[.val (.int x0), .val (.int x1), .val (.long x2), .second, .val (.int x3), .val (.int x4), .val (.int (0 : Int32)), .val (.ref l1), .val (.int (1 : Int32)), .val (.int (4 : Int32)), .val (.ref b6), .val (.int (Int32.ofNat pn)), .val (.ref b58), .val (.ref a63), .val (.ref a65)] [(.ref a63)])) (fun _ zk => XS.aload X65.here hx rfl (hb hby at_281) rfl rfl zk) ?_
      refine Go.st (T' := T65) (g' := (mkF m 285 #[.val (.int x0), .val (.int x1), .val (.long x2), .second, .val (.int x3), .val (.int x4), .val (.int (0 : Int32)), .val (.ref l1), .val (.int (1 : Int32)), .val (.int (4 : Int32)), .val (.ref b6), .val (.int (Int32.ofNat pn)), .val (.ref b58), .val (.ref a63), .val (.ref a65)] [(.ref a65), (.ref a63)])) (fun _ zk => XS.aload X65.here hx rfl (hb hby at_283) rfl rfl zk) ?_
      refine Go.st (T' := T65) (g' := (mkF m 287 #[.val (.int x0), .val (.int x1), .val (.long x2), .second, .val (.int x3), .val (.int x4), .val (.int (0 : Int32)), .val (.ref l1), .val (.int (1 : Int32)), .val (.int (4 : Int32)), .val (.ref b6), .val (.int (Int32.ofNat pn)), .val (.ref b58), .val (.ref a63), .val (.ref a65)] [(.ref b58), (.ref a65), (.ref a63)])) (fun _ zk => XS.aload X65.here hx rfl (hb hby at_285) rfl rfl zk) ?_
      have xt68 : Ext h61 h65 := (xt66.tr E65)
      have f69 := SN.ext xt68
      have xt71 : Ext h63 h65 := E65
      have f72 := f67.ext xt71
      have xt73 : Ext h1 h65 := (((((xt40.thenW W45 (Nat.le_of_eq g6.symm)).tr E58).thenK K61 (allS (P := fun x => h1.size ≤ x) (Nat.le_trans (Nat.le_trans (Nat.le_trans (Nat.le_trans (Nat.le_trans (Nat.le_trans (Nat.le_trans (Nat.le_trans (Nat.le_trans (Nat.le_trans (Nat.le_trans (Nat.le_trans E6.1 (Keep.of_wr W8).1) (Keep.of_wr W10).1) (Keep.of_wr W12).1) (Keep.of_wr W14).1) (Keep.of_wr W16).1) (Keep.of_wr W18).1) (Keep.of_wr W20).1) (Keep.of_wr W27).1) (Keep.of_wr W33).1) (Keep.of_wr W39).1) (Keep.of_wr W45).1) (Nat.le_of_eq g58.symm)) all0)).tr E63).tr E65)
      have cr74 := chrE ca2 xt73
      refine Go.callStS (y := (⟨"com/example/tokenweave/tokenweave/engine/BpmnReader", "xmlBoolean", "(Ljava/lang/String;Ljava/lang/String;Ljava/lang/String;)Z"⟩ : MethodName)) X65 hx hZ hown e65 hEL cr74.1 hS (Nat.le_trans hk1 (Nat.le_trans (Nat.le_trans (Nat.le_trans (Nat.le_trans (Nat.le_trans (Nat.le_trans (Nat.le_trans (Nat.le_trans (Nat.le_trans (Nat.le_trans (Nat.le_trans (Nat.le_trans (Nat.le_trans (Nat.le_trans (Nat.le_trans E6.1 (Keep.of_wr W8).1) (Keep.of_wr W10).1) (Keep.of_wr W12).1) (Keep.of_wr W14).1) (Keep.of_wr W16).1) (Keep.of_wr W18).1) (Keep.of_wr W20).1) (Keep.of_wr W27).1) (Keep.of_wr W33).1) (Keep.of_wr W39).1) (Keep.of_wr W45).1) E58.1) K61.1) E63.1) E65.1)) (w67 hw) (w68 hw) (w69 hw) (w70 hw) (by decide) (argsL := [(.ref a63), (.ref a65), (.ref b58)]) (rest := []) (W := 0) (rm_xmlBool l Z a0 hw [] a63 a65 b58 xs [(116 : Int32), (114 : Int32), (117 : Int32), (101 : Int32)] pn (pn + 4) zc ci dA kA h65 n0 (Nat.le_trans Z0 (Nat.le_trans (Nat.le_trans (Nat.le_trans (Nat.le_trans (Nat.le_trans (Nat.le_trans (Nat.le_trans (Nat.le_trans (Nat.le_trans (Nat.le_trans (Nat.le_trans (Nat.le_trans (Nat.le_trans (Nat.le_trans (Nat.le_trans (Nat.le_trans E1.1 E6.1) (Keep.of_wr W8).1) (Keep.of_wr W10).1) (Keep.of_wr W12).1) (Keep.of_wr W14).1) (Keep.of_wr W16).1) (Keep.of_wr W18).1) (Keep.of_wr W20).1) (Keep.of_wr W27).1) (Keep.of_wr W33).1) (Keep.of_wr W39).1) (Keep.of_wr W45).1) E58.1) K61.1) E63.1) E65.1)) f72 f69 (by omega) (by omega) (by omega) (by omega) hbuf.1 hbuf.2.1 hbuf.2.2.1 hbuf.2.2.2.1 hbuf.2.2.2.2 (Or.inl rfl) CS hz SI EI SA FA) all0 rfl (lenOf pd35 rfl) rfl (by rw [hml]; rfl) rfl (by show 2 * 0 + _ ≤ _; exact Nat.le_of_eq rfl) (by decide) (by decide) (by decide) (by decide) (hb hby at_287) ?_
      intro v70 T70 h70 L70 X70 e70 q70 hS hZ hown cr70
      obtain ⟨rx, hv70, hcase, Nf70, E70⟩ := q70
      subst hv70
      have N70 := Fr.app N65 Nf70
      have hrx : rx = (1 : Int32) := by
        rcases hcase with z | z
        · exact z.1
        · exact absurd z.2 (by decide)
      have ca75 := cr74.trans cr70
      show Go p.tables e below _ T70 (mkF m 290 #[.val (.int x0), .val (.int x1), .val (.long x2), .second, .val (.int x3), .val (.int x4), .val (.int (0 : Int32)), .val (.ref l1), .val (.int (1 : Int32)), .val (.int (4 : Int32)), .val (.ref b6), .val (.int (Int32.ofNat pn)), .val (.ref b58), .val (.ref a63), .val (.ref a65)] [(.int rx)])
      refine Go.st (T' := T70) (g' := (mkF m 292 #[.val (.int x0), .val (.int x1), .val (.long x2), .second, .val (.int x3), .val (.int x4), .val (.int (0 : Int32)), .val (.ref l1), .val (.int (1 : Int32)), .val (.int (4 : Int32)), .val (.ref b6), .val (.int (Int32.ofNat pn)), .val (.ref b58), .val (.ref a63), .val (.ref a65)] [(.int (1 : Int32)), (.int rx)])) (fun _ zk => XS.iload X70.here hx rfl (hb hby at_290) rfl zk) ?_
      refine Go.st (T' := T70) (g' := (mkF m 295 #[.val (.int x0), .val (.int x1), .val (.long x2), .second, .val (.int x3), .val (.int x4), .val (.int (0 : Int32)), .val (.ref l1), .val (.int (1 : Int32)), .val (.int (4 : Int32)), .val (.ref b6), .val (.int (Int32.ofNat pn)), .val (.ref b58), .val (.ref a63), .val (.ref a65)] [])) (fun _ zk => XS.icmpNo X70.here hx rfl (hb hby at_292) rfl (teq (hrx : rx = (1 : Int32))).2 zk) ?_
      refine Go.st (T' := T70) (g' := (mkF m 296 #[.val (.int x0), .val (.int x1), .val (.long x2), .second, .val (.int x3), .val (.int x4), .val (.int (0 : Int32)), .val (.ref l1), .val (.int (1 : Int32)), .val (.int (4 : Int32)), .val (.ref b6), .val (.int (Int32.ofNat pn)), .val (.ref b58), .val (.ref a63), .val (.ref a65)] [(.int (1 : Int32))])) (fun _ zk => XS.iconst X70.here hx rfl (hb hby at_295) zk) ?_
      refine Go.st (T' := T70) (g' := (mkF m 300 #[.val (.int x0), .val (.int x1), .val (.long x2), .second, .val (.int x3), .val (.int x4), .val (.int (0 : Int32)), .val (.ref l1), .val (.int (1 : Int32)), .val (.int (4 : Int32)), .val (.ref b6), .val (.int (Int32.ofNat pn)), .val (.ref b58), .val (.ref a63), .val (.ref a65)] [(.int (1 : Int32))])) (fun _ zk => XS.goto X70.here hx rfl (pc0 := 296) (pc' := 300) rfl (hb hby at_296) (by decide) (by decide) zk) ?_
      refine Go.retNS X70 hx hlk hS (Nat.le_refl _) ca75 hZ hEL hret rfl (by simp) (hb hby at_300) (by decide) (by decide) e70 ?_
      exact ⟨rfl, N70⟩
  · refine Go.st (T' := s₁) (g' := (mkF m 7 #[.val (.int x0), .val (.int x1), .val (.long x2), .second, .val (.int x3), .val (.int x4), .val (.int (1 : Int32)), .unset, .unset, .unset, .unset, .unset, .unset, .unset, .unset] [(.int (1 : Int32))])) (fun _ zk => XS.iload X0.here hx rfl (hb hby at_5) rfl zk) ?_
    refine Go.st (T' := s₁) (g' := (mkF m 15 #[.val (.int x0), .val (.int x1), .val (.long x2), .second, .val (.int x3), .val (.int x4), .val (.int (1 : Int32)), .unset, .unset, .unset, .unset, .unset, .unset, .unset, .unset] [])) (fun _ zk => XS.ifYes X0.here hx rfl (pc0 := 7) (pc' := 15) rfl (hb hby at_7) rfl ((if0 _ _).trans (feq ((by decide) : ¬ ((1 : Int32) = (0 : Int32)))).2) (by decide) (by decide) zk) ?_
    refine Go.st (T' := s₁) (g' := (mkF m 17 #[.val (.int x0), .val (.int x1), .val (.long x2), .second, .val (.int x3), .val (.int x4), .val (.int (1 : Int32)), .unset, .unset, .unset, .unset, .unset, .unset, .unset, .unset] [(.int (1 : Int32))])) (fun _ zk => XS.iload X0.here hx rfl (hb hby at_15) rfl zk) ?_
    refine Go.st (T' := s₁) (g' := (mkF m 18 #[.val (.int x0), .val (.int x1), .val (.long x2), .second, .val (.int x3), .val (.int x4), .val (.int (1 : Int32)), .unset, .unset, .unset, .unset, .unset, .unset, .unset, .unset] [(.int (1 : Int32)), (.int (1 : Int32))])) (fun _ zk => XS.iconst X0.here hx rfl (hb hby at_17) zk) ?_
    refine Go.st (T' := s₁) (g' := (mkF m 21 #[.val (.int x0), .val (.int x1), .val (.long x2), .second, .val (.int x3), .val (.int x4), .val (.int (1 : Int32)), .unset, .unset, .unset, .unset, .unset, .unset, .unset, .unset] [])) (fun _ zk => XS.icmpNo X0.here hx rfl (hb hby at_18) rfl (teq (rfl : (1 : Int32) = (1 : Int32))).2 zk) ?_
    obtain ⟨l76, T76, h76, kk76, lt76, kl76, X76, e76, E76, hS, hk76, hZ', hown, A76, C76, F76, V76, la76, lb76, cr76, -, sf76, st76⟩ := ldcCH X0 hx hZ hown (w107 hw) hSt e0 hS (Nat.zero_le _) hEL (by decide) hA.1 (vs := [(.int (49 : Int32))]) (z := (1 : Int32)) ⟨by decide, by decide⟩ (by decide) (by decide) (g := (mkF m 21 #[.val (.int x0), .val (.int x1), .val (.long x2), .second, .val (.int x3), .val (.int x4), .val (.int (1 : Int32)), .unset, .unset, .unset, .unset, .unset, .unset, .unset, .unset] [])) rfl (hb hby at_21) (n := 4) (by decide) (by decide) (by decide) (by decide)
    have hZ : Z.Warmed39 T76.vm := hZ'
    have ca77 := hA.trans cr76
    refine Go.st (T' := T76) (g' := (mkF m 23 #[.val (.int x0), .val (.int x1), .val (.long x2), .second, .val (.int x3), .val (.int x4), .val (.int (1 : Int32)), .unset, .unset, .unset, .unset, .unset, .unset, .unset, .unset] [(.ref l76)])) (fun _ zk => st76 _ zk) ?_
    refine Go.st (T' := T76) (g' := (mkF m 39 #[.val (.int x0), .val (.int x1), .val (.long x2), .second, .val (.int x3), .val (.int x4), .val (.int (1 : Int32)), .unset, .unset, .unset, .unset, .unset, .unset, .unset, .unset] [(.ref l76)])) (fun _ zk => XS.goto X76.here hx rfl (pc0 := 23) (pc' := 39) rfl (hb hby at_23) (by decide) (by decide) zk) ?_
    have SL : StrB Z h76 l76 0 [(49 : Int32)] := ⟨_, _, A76, C76, F76, V76⟩
    refine Go.st (T' := T76) (g' := (mkF m 41 #[.val (.int x0), .val (.int x1), .val (.long x2), .second, .val (.int x3), .val (.int x4), .val (.int (1 : Int32)), .val (.ref l76), .unset, .unset, .unset, .unset, .unset, .unset, .unset] [])) (fun _ zk => XS.astore X76.here hx rfl (hb hby at_39) rfl rfl (l' := #[.val (.int x0), .val (.int x1), .val (.long x2), .second, .val (.int x3), .val (.int x4), .val (.int (1 : Int32)), .val (.ref l76), .unset, .unset, .unset, .unset, .unset, .unset, .unset]) rfl zk) ?_
    refine Go.st (T' := T76) (g' := (mkF m 43 #[.val (.int x0), .val (.int x1), .val (.long x2), .second, .val (.int x3), .val (.int x4), .val (.int (1 : Int32)), .val (.ref l76), .unset, .unset, .unset, .unset, .unset, .unset, .unset] [(.int (1 : Int32))])) (fun _ zk => XS.iload X76.here hx rfl (hb hby at_41) rfl zk) ?_
    refine Go.st (T' := T76) (g' := (mkF m 44 #[.val (.int x0), .val (.int x1), .val (.long x2), .second, .val (.int x3), .val (.int x4), .val (.int (1 : Int32)), .val (.ref l76), .unset, .unset, .unset, .unset, .unset, .unset, .unset] [(.int (2 : Int32)), (.int (1 : Int32))])) (fun _ zk => XS.iconst X76.here hx rfl (hb hby at_43) zk) ?_
    refine Go.st (T' := T76) (g' := (mkF m 47 #[.val (.int x0), .val (.int x1), .val (.long x2), .second, .val (.int x3), .val (.int x4), .val (.int (1 : Int32)), .val (.ref l76), .unset, .unset, .unset, .unset, .unset, .unset, .unset] [])) (fun _ zk => XS.icmpNo X76.here hx rfl (hb hby at_44) rfl (tlt ((by decide) : (1 : Int32) < (2 : Int32))).2.1 zk) ?_
    refine Go.st (T' := T76) (g' := (mkF m 48 #[.val (.int x0), .val (.int x1), .val (.long x2), .second, .val (.int x3), .val (.int x4), .val (.int (1 : Int32)), .val (.ref l76), .unset, .unset, .unset, .unset, .unset, .unset, .unset] [(.int (1 : Int32))])) (fun _ zk => XS.iconst X76.here hx rfl (hb hby at_47) zk) ?_
    refine Go.st (T' := T76) (g' := (mkF m 52 #[.val (.int x0), .val (.int x1), .val (.long x2), .second, .val (.int x3), .val (.int x4), .val (.int (1 : Int32)), .val (.ref l76), .unset, .unset, .unset, .unset, .unset, .unset, .unset] [(.int (1 : Int32))])) (fun _ zk => XS.goto X76.here hx rfl (pc0 := 48) (pc' := 52) rfl (hb hby at_48) (by decide) (by decide) zk) ?_
    refine Go.st (T' := T76) (g' := (mkF m 54 #[.val (.int x0), .val (.int x1), .val (.long x2), .second, .val (.int x3), .val (.int x4), .val (.int (1 : Int32)), .val (.ref l76), .val (.int (1 : Int32)), .unset, .unset, .unset, .unset, .unset, .unset] [])) (fun _ zk => XS.istore X76.here hx rfl (hb hby at_52) rfl (l' := #[.val (.int x0), .val (.int x1), .val (.long x2), .second, .val (.int x3), .val (.int x4), .val (.int (1 : Int32)), .val (.ref l76), .val (.int (1 : Int32)), .unset, .unset, .unset, .unset, .unset, .unset]) rfl zk) ?_
    refine Go.st (T' := T76) (g' := (mkF m 56 #[.val (.int x0), .val (.int x1), .val (.long x2), .second, .val (.int x3), .val (.int x4), .val (.int (1 : Int32)), .val (.ref l76), .val (.int (1 : Int32)), .unset, .unset, .unset, .unset, .unset, .unset] [(.ref l76)])) (fun _ zk => XS.aload X76.here hx rfl (hb hby at_54) rfl rfl zk) ?_
    have xt79 : Ext h0 h76 := E76
    have f80 := O0.ext xt79
    refine Go.callV (y := (⟨"java/lang/String", "length", "()I"⟩ : MethodName)) (z := (⟨"java/lang/String", "length", "()I"⟩ : MethodName)) (C := "java/lang/String") (a := l76) X76 hx hZ hown e76 (w8 hw) (w9 hw) (w11 hw) (w10 hw) (w1 hw) (w12 hw) (notFace_of_selects (args := #[]) (mvT hZ (w11 hw))) (by decide) A76 (argsL := []) (rest := []) (W := 0) (rm_lengthG l Z a0 hw [] l76 [(49 : Int32)] zc h76 n0 (Nat.le_trans Z0 E76.1) f80 SL CS hz) rfl (lenOf pd31 rfl) rfl (by rw [hml]; rfl) rfl (by show 2 * 0 + _ ≤ _; exact Nat.le_of_eq rfl) (by decide) (by decide) (by decide) (by decide) (hb hby at_56) ?_
    intro v78 T78 h78 L78 X78 e78 q78
    obtain ⟨hv78, Nf78, hh78⟩ := q78
    subst hv78
    have E78 : T78.heap = h76 := e78.trans hh78
    have N78 := Fr.app N0 Nf78
    show Go p.tables e below _ T78 (mkF m 59 #[.val (.int x0), .val (.int x1), .val (.long x2), .second, .val (.int x3), .val (.int x4), .val (.int (1 : Int32)), .val (.ref l76), .val (.int (1 : Int32)), .unset, .unset, .unset, .unset, .unset, .unset] [(.int (1 : Int32))])
    refine Go.st (T' := T78) (g' := (mkF m 61 #[.val (.int x0), .val (.int x1), .val (.long x2), .second, .val (.int x3), .val (.int x4), .val (.int (1 : Int32)), .val (.ref l76), .val (.int (1 : Int32)), .val (.int (1 : Int32)), .unset, .unset, .unset, .unset, .unset] [])) (fun _ zk => XS.istore X78.here hx rfl (hb hby at_59) rfl (l' := #[.val (.int x0), .val (.int x1), .val (.long x2), .second, .val (.int x3), .val (.int x4), .val (.int (1 : Int32)), .val (.ref l76), .val (.int (1 : Int32)), .val (.int (1 : Int32)), .unset, .unset, .unset, .unset, .unset]) rfl zk) ?_
    refine Go.st (T' := T78) (g' := (mkF m 63 #[.val (.int x0), .val (.int x1), .val (.long x2), .second, .val (.int x3), .val (.int x4), .val (.int (1 : Int32)), .val (.ref l76), .val (.int (1 : Int32)), .val (.int (1 : Int32)), .unset, .unset, .unset, .unset, .unset] [(.int (7 : Int32))])) (fun _ zk => XS.bipush X78.here hx rfl (hb hby at_61) zk) ?_
    obtain ⟨T81, h81, k81, X81, e81, E81, A81, st81⟩ := newP (aty := .char) X78 hx hZ (w21 hw) E78 (g := (mkF m 63 #[.val (.int x0), .val (.int x1), .val (.long x2), .second, .val (.int x3), .val (.int x4), .val (.int (1 : Int32)), .val (.ref l76), .val (.int (1 : Int32)), .val (.int (1 : Int32)), .unset, .unset, .unset, .unset, .unset] [(.int (7 : Int32))])) rfl (hb hby at_63) rfl (by decide) (cap := 7) (by decide) (by decide) (by decide) (by decide)
    obtain ⟨b81, g81⟩ : ∃ z, z = h76.size := ⟨_, rfl⟩
    rw [← g81] at A81 st81
    have V81 : Arv Z h81 b81 k81 .char (7 : Int32) [(.int (0 : Int32)), (.int (0 : Int32)), (.int (0 : Int32)), (.int (0 : Int32)), (.int (0 : Int32)), (.int (0 : Int32)), (.int (0 : Int32))] (.int (0 : Int32)) := (Arv.new A81 (by decide)).pad (pad_rep [] (.int (0 : Int32)) 7)
    refine Go.st (T' := T81) (g' := (mkF m 65 #[.val (.int x0), .val (.int x1), .val (.long x2), .second, .val (.int x3), .val (.int x4), .val (.int (1 : Int32)), .val (.ref l76), .val (.int (1 : Int32)), .val (.int (1 : Int32)), .unset, .unset, .unset, .unset, .unset] [(.ref b81)])) (fun _ zk => st81 _ zk) ?_
    refine Go.st (T' := T81) (g' := (mkF m 67 #[.val (.int x0), .val (.int x1), .val (.long x2), .second, .val (.int x3), .val (.int x4), .val (.int (1 : Int32)), .val (.ref l76), .val (.int (1 : Int32)), .val (.int (1 : Int32)), .val (.ref b81), .unset, .unset, .unset, .unset] [])) (fun _ zk => XS.astore X81.here hx rfl (hb hby at_65) rfl rfl (l' := #[.val (.int x0), .val (.int x1), .val (.long x2), .second, .val (.int x3), .val (.int x4), .val (.int (1 : Int32)), .val (.ref l76), .val (.int (1 : Int32)), .val (.int (1 : Int32)), .val (.ref b81), .unset, .unset, .unset, .unset]) rfl zk) ?_
    refine Go.st (T' := T81) (g' := (mkF m 69 #[.val (.int x0), .val (.int x1), .val (.long x2), .second, .val (.int x3), .val (.int x4), .val (.int (1 : Int32)), .val (.ref l76), .val (.int (1 : Int32)), .val (.int (1 : Int32)), .val (.ref b81), .unset, .unset, .unset, .unset] [(.ref b81)])) (fun _ zk => XS.aload X81.here hx rfl (hb hby at_67) rfl rfl zk) ?_
    refine Go.st (T' := T81) (g' := (mkF m 70 #[.val (.int x0), .val (.int x1), .val (.long x2), .second, .val (.int x3), .val (.int x4), .val (.int (1 : Int32)), .val (.ref l76), .val (.int (1 : Int32)), .val (.int (1 : Int32)), .val (.ref b81), .unset, .unset, .unset, .unset] [(.int (0 : Int32)), (.ref b81)])) (fun _ zk => XS.iconst X81.here hx rfl (hb hby at_69) zk) ?_
    refine Go.st (T' := T81) (g' := (mkF m 71 #[.val (.int x0), .val (.int x1), .val (.long x2), .second, .val (.int x3), .val (.int x4), .val (.int (1 : Int32)), .val (.ref l76), .val (.int (1 : Int32)), .val (.int (1 : Int32)), .val (.ref b81), .unset, .unset, .unset, .unset] [(.long x2), (.int (0 : Int32)), (.ref b81)])) (fun _ zk => XS.lloadN X81.here hx rfl (hb hby at_70) rfl zk) ?_
    refine Go.st (T' := T81) (g' := (mkF m 72 #[.val (.int x0), .val (.int x1), .val (.long x2), .second, .val (.int x3), .val (.int x4), .val (.int (1 : Int32)), .val (.ref l76), .val (.int (1 : Int32)), .val (.int (1 : Int32)), .val (.ref b81), .unset, .unset, .unset, .unset] [(.int (0 : Int32)), (.long x2), (.int (0 : Int32)), (.ref b81)])) (fun _ zk => XS.iconst X81.here hx rfl (hb hby at_71) zk) ?_
    refine Go.callSt (y := (⟨"com/example/tokenweave/tokenweave/engine/BpmnReaderXmlBooleanPinLaw", "space", "(JI)C"⟩ : MethodName)) X81 hx hZ hown e81 (w22 hw) (w23 hw) (w24 hw) (w25 hw) (by decide) (argsL := [(.long x2), (.int (0 : Int32))]) (rest := [(.int (0 : Int32)), (.ref b81)]) (W := 2) (rm_space l Z a0 hw [] x2 (0 : Int32) h81 n0 (Nat.le_trans Z0 (Nat.le_trans E76.1 E81.1)) ) rfl (lenOf pd32 rfl) rfl (by rw [hml]; rfl) rfl (by show 2 * 0 + _ ≤ _; exact Nat.le_of_eq rfl) (by decide) (by decide) (by decide) (by decide) (hb hby at_72) ?_
    intro v82 T82 h82 L82 X82 e82 q82
    obtain ⟨sp0, hv82, qw0, Nf82, hh82⟩ := q82
    subst hv82
    have E82 : T82.heap = h81 := e82.trans hh82
    have N82 := Fr.app N78 Nf82
    show Go p.tables e below _ T82 (mkF m 75 #[.val (.int x0), .val (.int x1), .val (.long x2), .second, .val (.int x3), .val (.int x4), .val (.int (1 : Int32)), .val (.ref l76), .val (.int (1 : Int32)), .val (.int (1 : Int32)), .val (.ref b81), .unset, .unset, .unset, .unset] [(.int sp0), (.int (0 : Int32)), (.ref b81)])
    obtain ⟨T83, h83, X83, e83, W83, V83, st83⟩ := stCV X82 hx hZ E82 V81 (j := (0 : Int32)) (i := 0) (by decide) rfl (Nat.le_of_ble_eq_true rfl) (g := (mkF m 75 #[.val (.int x0), .val (.int x1), .val (.long x2), .second, .val (.int x3), .val (.int x4), .val (.int (1 : Int32)), .val (.ref l76), .val (.int (1 : Int32)), .val (.int (1 : Int32)), .val (.ref b81), .unset, .unset, .unset, .unset] [(.int sp0), (.int (0 : Int32)), (.ref b81)])) rfl rfl (hb hby at_75)
    rw [nar_cid (x := sp0) (by unfold wsr at qw0; omega)] at V83
    have V83' : Arv Z h83 b81 k81 .char (7 : Int32) [(.int sp0), (.int (0 : Int32)), (.int (0 : Int32)), (.int (0 : Int32)), (.int (0 : Int32)), (.int (0 : Int32)), (.int (0 : Int32))] (.int (0 : Int32)) := V83
    have N83 := Fr.snoc X83 N82 (Nat.le_trans Z0 (Nat.le_trans E76.1 (Nat.le_of_eq g81.symm)))
    refine Go.st (T' := T83) (g' := (mkF m 76 #[.val (.int x0), .val (.int x1), .val (.long x2), .second, .val (.int x3), .val (.int x4), .val (.int (1 : Int32)), .val (.ref l76), .val (.int (1 : Int32)), .val (.int (1 : Int32)), .val (.ref b81), .unset, .unset, .unset, .unset] [])) (fun _ zk => st83 _ zk) ?_
    refine Go.st (T' := T83) (g' := (mkF m 78 #[.val (.int x0), .val (.int x1), .val (.long x2), .second, .val (.int x3), .val (.int x4), .val (.int (1 : Int32)), .val (.ref l76), .val (.int (1 : Int32)), .val (.int (1 : Int32)), .val (.ref b81), .unset, .unset, .unset, .unset] [(.ref b81)])) (fun _ zk => XS.aload X83.here hx rfl (hb hby at_76) rfl rfl zk) ?_
    refine Go.st (T' := T83) (g' := (mkF m 79 #[.val (.int x0), .val (.int x1), .val (.long x2), .second, .val (.int x3), .val (.int x4), .val (.int (1 : Int32)), .val (.ref l76), .val (.int (1 : Int32)), .val (.int (1 : Int32)), .val (.ref b81), .unset, .unset, .unset, .unset] [(.int (1 : Int32)), (.ref b81)])) (fun _ zk => XS.iconst X83.here hx rfl (hb hby at_78) zk) ?_
    refine Go.st (T' := T83) (g' := (mkF m 80 #[.val (.int x0), .val (.int x1), .val (.long x2), .second, .val (.int x3), .val (.int x4), .val (.int (1 : Int32)), .val (.ref l76), .val (.int (1 : Int32)), .val (.int (1 : Int32)), .val (.ref b81), .unset, .unset, .unset, .unset] [(.long x2), (.int (1 : Int32)), (.ref b81)])) (fun _ zk => XS.lloadN X83.here hx rfl (hb hby at_79) rfl zk) ?_
    refine Go.st (T' := T83) (g' := (mkF m 81 #[.val (.int x0), .val (.int x1), .val (.long x2), .second, .val (.int x3), .val (.int x4), .val (.int (1 : Int32)), .val (.ref l76), .val (.int (1 : Int32)), .val (.int (1 : Int32)), .val (.ref b81), .unset, .unset, .unset, .unset] [(.int (1 : Int32)), (.long x2), (.int (1 : Int32)), (.ref b81)])) (fun _ zk => XS.iconst X83.here hx rfl (hb hby at_80) zk) ?_
    refine Go.callSt (y := (⟨"com/example/tokenweave/tokenweave/engine/BpmnReaderXmlBooleanPinLaw", "space", "(JI)C"⟩ : MethodName)) X83 hx hZ hown e83 (w22 hw) (w23 hw) (w24 hw) (w25 hw) (by decide) (argsL := [(.long x2), (.int (1 : Int32))]) (rest := [(.int (1 : Int32)), (.ref b81)]) (W := 2) (rm_space l Z a0 hw [] x2 (1 : Int32) h83 n0 (Nat.le_trans Z0 (Nat.le_trans (Nat.le_trans E76.1 E81.1) (Keep.of_wr W83).1)) ) rfl (lenOf pd32 rfl) rfl (by rw [hml]; rfl) rfl (by show 2 * 0 + _ ≤ _; exact Nat.le_of_eq rfl) (by decide) (by decide) (by decide) (by decide) (hb hby at_81) ?_
    intro v84 T84 h84 L84 X84 e84 q84
    obtain ⟨sp1, hv84, qw1, Nf84, hh84⟩ := q84
    subst hv84
    have E84 : T84.heap = h83 := e84.trans hh84
    have N84 := Fr.app N83 Nf84
    show Go p.tables e below _ T84 (mkF m 84 #[.val (.int x0), .val (.int x1), .val (.long x2), .second, .val (.int x3), .val (.int x4), .val (.int (1 : Int32)), .val (.ref l76), .val (.int (1 : Int32)), .val (.int (1 : Int32)), .val (.ref b81), .unset, .unset, .unset, .unset] [(.int sp1), (.int (1 : Int32)), (.ref b81)])
    obtain ⟨T85, h85, X85, e85, W85, V85, st85⟩ := stCV X84 hx hZ E84 V83' (j := (1 : Int32)) (i := 1) (by decide) rfl (Nat.le_of_ble_eq_true rfl) (g := (mkF m 84 #[.val (.int x0), .val (.int x1), .val (.long x2), .second, .val (.int x3), .val (.int x4), .val (.int (1 : Int32)), .val (.ref l76), .val (.int (1 : Int32)), .val (.int (1 : Int32)), .val (.ref b81), .unset, .unset, .unset, .unset] [(.int sp1), (.int (1 : Int32)), (.ref b81)])) rfl rfl (hb hby at_84)
    rw [nar_cid (x := sp1) (by unfold wsr at qw1; omega)] at V85
    have V85' : Arv Z h85 b81 k81 .char (7 : Int32) [(.int sp0), (.int sp1), (.int (0 : Int32)), (.int (0 : Int32)), (.int (0 : Int32)), (.int (0 : Int32)), (.int (0 : Int32))] (.int (0 : Int32)) := V85
    have N85 := Fr.snoc X85 N84 (Nat.le_trans Z0 (Nat.le_trans E76.1 (Nat.le_of_eq g81.symm)))
    refine Go.st (T' := T85) (g' := (mkF m 85 #[.val (.int x0), .val (.int x1), .val (.long x2), .second, .val (.int x3), .val (.int x4), .val (.int (1 : Int32)), .val (.ref l76), .val (.int (1 : Int32)), .val (.int (1 : Int32)), .val (.ref b81), .unset, .unset, .unset, .unset] [])) (fun _ zk => st85 _ zk) ?_
    refine Go.st (T' := T85) (g' := (mkF m 87 #[.val (.int x0), .val (.int x1), .val (.long x2), .second, .val (.int x3), .val (.int x4), .val (.int (1 : Int32)), .val (.ref l76), .val (.int (1 : Int32)), .val (.int (1 : Int32)), .val (.ref b81), .unset, .unset, .unset, .unset] [(.ref b81)])) (fun _ zk => XS.aload X85.here hx rfl (hb hby at_85) rfl rfl zk) ?_
    refine Go.st (T' := T85) (g' := (mkF m 88 #[.val (.int x0), .val (.int x1), .val (.long x2), .second, .val (.int x3), .val (.int x4), .val (.int (1 : Int32)), .val (.ref l76), .val (.int (1 : Int32)), .val (.int (1 : Int32)), .val (.ref b81), .unset, .unset, .unset, .unset] [(.int (2 : Int32)), (.ref b81)])) (fun _ zk => XS.iconst X85.here hx rfl (hb hby at_87) zk) ?_
    refine Go.st (T' := T85) (g' := (mkF m 89 #[.val (.int x0), .val (.int x1), .val (.long x2), .second, .val (.int x3), .val (.int x4), .val (.int (1 : Int32)), .val (.ref l76), .val (.int (1 : Int32)), .val (.int (1 : Int32)), .val (.ref b81), .unset, .unset, .unset, .unset] [(.long x2), (.int (2 : Int32)), (.ref b81)])) (fun _ zk => XS.lloadN X85.here hx rfl (hb hby at_88) rfl zk) ?_
    refine Go.st (T' := T85) (g' := (mkF m 90 #[.val (.int x0), .val (.int x1), .val (.long x2), .second, .val (.int x3), .val (.int x4), .val (.int (1 : Int32)), .val (.ref l76), .val (.int (1 : Int32)), .val (.int (1 : Int32)), .val (.ref b81), .unset, .unset, .unset, .unset] [(.int (2 : Int32)), (.long x2), (.int (2 : Int32)), (.ref b81)])) (fun _ zk => XS.iconst X85.here hx rfl (hb hby at_89) zk) ?_
    refine Go.callSt (y := (⟨"com/example/tokenweave/tokenweave/engine/BpmnReaderXmlBooleanPinLaw", "space", "(JI)C"⟩ : MethodName)) X85 hx hZ hown e85 (w22 hw) (w23 hw) (w24 hw) (w25 hw) (by decide) (argsL := [(.long x2), (.int (2 : Int32))]) (rest := [(.int (2 : Int32)), (.ref b81)]) (W := 2) (rm_space l Z a0 hw [] x2 (2 : Int32) h85 n0 (Nat.le_trans Z0 (Nat.le_trans (Nat.le_trans (Nat.le_trans E76.1 E81.1) (Keep.of_wr W83).1) (Keep.of_wr W85).1)) ) rfl (lenOf pd32 rfl) rfl (by rw [hml]; rfl) rfl (by show 2 * 0 + _ ≤ _; exact Nat.le_of_eq rfl) (by decide) (by decide) (by decide) (by decide) (hb hby at_90) ?_
    intro v86 T86 h86 L86 X86 e86 q86
    obtain ⟨sp2, hv86, qw2, Nf86, hh86⟩ := q86
    subst hv86
    have E86 : T86.heap = h85 := e86.trans hh86
    have N86 := Fr.app N85 Nf86
    show Go p.tables e below _ T86 (mkF m 93 #[.val (.int x0), .val (.int x1), .val (.long x2), .second, .val (.int x3), .val (.int x4), .val (.int (1 : Int32)), .val (.ref l76), .val (.int (1 : Int32)), .val (.int (1 : Int32)), .val (.ref b81), .unset, .unset, .unset, .unset] [(.int sp2), (.int (2 : Int32)), (.ref b81)])
    obtain ⟨T87, h87, X87, e87, W87, V87, st87⟩ := stCV X86 hx hZ E86 V85' (j := (2 : Int32)) (i := 2) (by decide) rfl (Nat.le_of_ble_eq_true rfl) (g := (mkF m 93 #[.val (.int x0), .val (.int x1), .val (.long x2), .second, .val (.int x3), .val (.int x4), .val (.int (1 : Int32)), .val (.ref l76), .val (.int (1 : Int32)), .val (.int (1 : Int32)), .val (.ref b81), .unset, .unset, .unset, .unset] [(.int sp2), (.int (2 : Int32)), (.ref b81)])) rfl rfl (hb hby at_93)
    rw [nar_cid (x := sp2) (by unfold wsr at qw2; omega)] at V87
    have V87' : Arv Z h87 b81 k81 .char (7 : Int32) [(.int sp0), (.int sp1), (.int sp2), (.int (0 : Int32)), (.int (0 : Int32)), (.int (0 : Int32)), (.int (0 : Int32))] (.int (0 : Int32)) := V87
    have N87 := Fr.snoc X87 N86 (Nat.le_trans Z0 (Nat.le_trans E76.1 (Nat.le_of_eq g81.symm)))
    refine Go.st (T' := T87) (g' := (mkF m 94 #[.val (.int x0), .val (.int x1), .val (.long x2), .second, .val (.int x3), .val (.int x4), .val (.int (1 : Int32)), .val (.ref l76), .val (.int (1 : Int32)), .val (.int (1 : Int32)), .val (.ref b81), .unset, .unset, .unset, .unset] [])) (fun _ zk => st87 _ zk) ?_
    refine Go.st (T' := T87) (g' := (mkF m 96 #[.val (.int x0), .val (.int x1), .val (.long x2), .second, .val (.int x3), .val (.int x4), .val (.int (1 : Int32)), .val (.ref l76), .val (.int (1 : Int32)), .val (.int (1 : Int32)), .val (.ref b81), .unset, .unset, .unset, .unset] [(.ref b81)])) (fun _ zk => XS.aload X87.here hx rfl (hb hby at_94) rfl rfl zk) ?_
    refine Go.st (T' := T87) (g' := (mkF m 97 #[.val (.int x0), .val (.int x1), .val (.long x2), .second, .val (.int x3), .val (.int x4), .val (.int (1 : Int32)), .val (.ref l76), .val (.int (1 : Int32)), .val (.int (1 : Int32)), .val (.ref b81), .unset, .unset, .unset, .unset] [(.int (3 : Int32)), (.ref b81)])) (fun _ zk => XS.iconst X87.here hx rfl (hb hby at_96) zk) ?_
    refine Go.st (T' := T87) (g' := (mkF m 98 #[.val (.int x0), .val (.int x1), .val (.long x2), .second, .val (.int x3), .val (.int x4), .val (.int (1 : Int32)), .val (.ref l76), .val (.int (1 : Int32)), .val (.int (1 : Int32)), .val (.ref b81), .unset, .unset, .unset, .unset] [(.long x2), (.int (3 : Int32)), (.ref b81)])) (fun _ zk => XS.lloadN X87.here hx rfl (hb hby at_97) rfl zk) ?_
    refine Go.st (T' := T87) (g' := (mkF m 99 #[.val (.int x0), .val (.int x1), .val (.long x2), .second, .val (.int x3), .val (.int x4), .val (.int (1 : Int32)), .val (.ref l76), .val (.int (1 : Int32)), .val (.int (1 : Int32)), .val (.ref b81), .unset, .unset, .unset, .unset] [(.int (3 : Int32)), (.long x2), (.int (3 : Int32)), (.ref b81)])) (fun _ zk => XS.iconst X87.here hx rfl (hb hby at_98) zk) ?_
    refine Go.callSt (y := (⟨"com/example/tokenweave/tokenweave/engine/BpmnReaderXmlBooleanPinLaw", "space", "(JI)C"⟩ : MethodName)) X87 hx hZ hown e87 (w22 hw) (w23 hw) (w24 hw) (w25 hw) (by decide) (argsL := [(.long x2), (.int (3 : Int32))]) (rest := [(.int (3 : Int32)), (.ref b81)]) (W := 2) (rm_space l Z a0 hw [] x2 (3 : Int32) h87 n0 (Nat.le_trans Z0 (Nat.le_trans (Nat.le_trans (Nat.le_trans (Nat.le_trans E76.1 E81.1) (Keep.of_wr W83).1) (Keep.of_wr W85).1) (Keep.of_wr W87).1)) ) rfl (lenOf pd32 rfl) rfl (by rw [hml]; rfl) rfl (by show 2 * 0 + _ ≤ _; exact Nat.le_of_eq rfl) (by decide) (by decide) (by decide) (by decide) (hb hby at_99) ?_
    intro v88 T88 h88 L88 X88 e88 q88
    obtain ⟨sp3, hv88, qw3, Nf88, hh88⟩ := q88
    subst hv88
    have E88 : T88.heap = h87 := e88.trans hh88
    have N88 := Fr.app N87 Nf88
    show Go p.tables e below _ T88 (mkF m 102 #[.val (.int x0), .val (.int x1), .val (.long x2), .second, .val (.int x3), .val (.int x4), .val (.int (1 : Int32)), .val (.ref l76), .val (.int (1 : Int32)), .val (.int (1 : Int32)), .val (.ref b81), .unset, .unset, .unset, .unset] [(.int sp3), (.int (3 : Int32)), (.ref b81)])
    obtain ⟨T89, h89, X89, e89, W89, V89, st89⟩ := stCV X88 hx hZ E88 V87' (j := (3 : Int32)) (i := 3) (by decide) rfl (Nat.le_of_ble_eq_true rfl) (g := (mkF m 102 #[.val (.int x0), .val (.int x1), .val (.long x2), .second, .val (.int x3), .val (.int x4), .val (.int (1 : Int32)), .val (.ref l76), .val (.int (1 : Int32)), .val (.int (1 : Int32)), .val (.ref b81), .unset, .unset, .unset, .unset] [(.int sp3), (.int (3 : Int32)), (.ref b81)])) rfl rfl (hb hby at_102)
    rw [nar_cid (x := sp3) (by unfold wsr at qw3; omega)] at V89
    have V89' : Arv Z h89 b81 k81 .char (7 : Int32) [(.int sp0), (.int sp1), (.int sp2), (.int sp3), (.int (0 : Int32)), (.int (0 : Int32)), (.int (0 : Int32))] (.int (0 : Int32)) := V89
    have N89 := Fr.snoc X89 N88 (Nat.le_trans Z0 (Nat.le_trans E76.1 (Nat.le_of_eq g81.symm)))
    refine Go.st (T' := T89) (g' := (mkF m 103 #[.val (.int x0), .val (.int x1), .val (.long x2), .second, .val (.int x3), .val (.int x4), .val (.int (1 : Int32)), .val (.ref l76), .val (.int (1 : Int32)), .val (.int (1 : Int32)), .val (.ref b81), .unset, .unset, .unset, .unset] [])) (fun _ zk => st89 _ zk) ?_
    refine Go.st (T' := T89) (g' := (mkF m 105 #[.val (.int x0), .val (.int x1), .val (.long x2), .second, .val (.int x3), .val (.int x4), .val (.int (1 : Int32)), .val (.ref l76), .val (.int (1 : Int32)), .val (.int (1 : Int32)), .val (.ref b81), .unset, .unset, .unset, .unset] [(.ref b81)])) (fun _ zk => XS.aload X89.here hx rfl (hb hby at_103) rfl rfl zk) ?_
    refine Go.st (T' := T89) (g' := (mkF m 106 #[.val (.int x0), .val (.int x1), .val (.long x2), .second, .val (.int x3), .val (.int x4), .val (.int (1 : Int32)), .val (.ref l76), .val (.int (1 : Int32)), .val (.int (1 : Int32)), .val (.ref b81), .unset, .unset, .unset, .unset] [(.int (4 : Int32)), (.ref b81)])) (fun _ zk => XS.iconst X89.here hx rfl (hb hby at_105) zk) ?_
    refine Go.st (T' := T89) (g' := (mkF m 107 #[.val (.int x0), .val (.int x1), .val (.long x2), .second, .val (.int x3), .val (.int x4), .val (.int (1 : Int32)), .val (.ref l76), .val (.int (1 : Int32)), .val (.int (1 : Int32)), .val (.ref b81), .unset, .unset, .unset, .unset] [(.long x2), (.int (4 : Int32)), (.ref b81)])) (fun _ zk => XS.lloadN X89.here hx rfl (hb hby at_106) rfl zk) ?_
    refine Go.st (T' := T89) (g' := (mkF m 108 #[.val (.int x0), .val (.int x1), .val (.long x2), .second, .val (.int x3), .val (.int x4), .val (.int (1 : Int32)), .val (.ref l76), .val (.int (1 : Int32)), .val (.int (1 : Int32)), .val (.ref b81), .unset, .unset, .unset, .unset] [(.int (4 : Int32)), (.long x2), (.int (4 : Int32)), (.ref b81)])) (fun _ zk => XS.iconst X89.here hx rfl (hb hby at_107) zk) ?_
    refine Go.callSt (y := (⟨"com/example/tokenweave/tokenweave/engine/BpmnReaderXmlBooleanPinLaw", "space", "(JI)C"⟩ : MethodName)) X89 hx hZ hown e89 (w22 hw) (w23 hw) (w24 hw) (w25 hw) (by decide) (argsL := [(.long x2), (.int (4 : Int32))]) (rest := [(.int (4 : Int32)), (.ref b81)]) (W := 2) (rm_space l Z a0 hw [] x2 (4 : Int32) h89 n0 (Nat.le_trans Z0 (Nat.le_trans (Nat.le_trans (Nat.le_trans (Nat.le_trans (Nat.le_trans E76.1 E81.1) (Keep.of_wr W83).1) (Keep.of_wr W85).1) (Keep.of_wr W87).1) (Keep.of_wr W89).1)) ) rfl (lenOf pd32 rfl) rfl (by rw [hml]; rfl) rfl (by show 2 * 0 + _ ≤ _; exact Nat.le_of_eq rfl) (by decide) (by decide) (by decide) (by decide) (hb hby at_108) ?_
    intro v90 T90 h90 L90 X90 e90 q90
    obtain ⟨sp4, hv90, qw4, Nf90, hh90⟩ := q90
    subst hv90
    have E90 : T90.heap = h89 := e90.trans hh90
    have N90 := Fr.app N89 Nf90
    show Go p.tables e below _ T90 (mkF m 111 #[.val (.int x0), .val (.int x1), .val (.long x2), .second, .val (.int x3), .val (.int x4), .val (.int (1 : Int32)), .val (.ref l76), .val (.int (1 : Int32)), .val (.int (1 : Int32)), .val (.ref b81), .unset, .unset, .unset, .unset] [(.int sp4), (.int (4 : Int32)), (.ref b81)])
    obtain ⟨T91, h91, X91, e91, W91, V91, st91⟩ := stCV X90 hx hZ E90 V89' (j := (4 : Int32)) (i := 4) (by decide) rfl (Nat.le_of_ble_eq_true rfl) (g := (mkF m 111 #[.val (.int x0), .val (.int x1), .val (.long x2), .second, .val (.int x3), .val (.int x4), .val (.int (1 : Int32)), .val (.ref l76), .val (.int (1 : Int32)), .val (.int (1 : Int32)), .val (.ref b81), .unset, .unset, .unset, .unset] [(.int sp4), (.int (4 : Int32)), (.ref b81)])) rfl rfl (hb hby at_111)
    rw [nar_cid (x := sp4) (by unfold wsr at qw4; omega)] at V91
    have V91' : Arv Z h91 b81 k81 .char (7 : Int32) [(.int sp0), (.int sp1), (.int sp2), (.int sp3), (.int sp4), (.int (0 : Int32)), (.int (0 : Int32))] (.int (0 : Int32)) := V91
    have N91 := Fr.snoc X91 N90 (Nat.le_trans Z0 (Nat.le_trans E76.1 (Nat.le_of_eq g81.symm)))
    refine Go.st (T' := T91) (g' := (mkF m 112 #[.val (.int x0), .val (.int x1), .val (.long x2), .second, .val (.int x3), .val (.int x4), .val (.int (1 : Int32)), .val (.ref l76), .val (.int (1 : Int32)), .val (.int (1 : Int32)), .val (.ref b81), .unset, .unset, .unset, .unset] [])) (fun _ zk => st91 _ zk) ?_
    refine Go.st (T' := T91) (g' := (mkF m 114 #[.val (.int x0), .val (.int x1), .val (.long x2), .second, .val (.int x3), .val (.int x4), .val (.int (1 : Int32)), .val (.ref l76), .val (.int (1 : Int32)), .val (.int (1 : Int32)), .val (.ref b81), .unset, .unset, .unset, .unset] [(.ref b81)])) (fun _ zk => XS.aload X91.here hx rfl (hb hby at_112) rfl rfl zk) ?_
    refine Go.st (T' := T91) (g' := (mkF m 115 #[.val (.int x0), .val (.int x1), .val (.long x2), .second, .val (.int x3), .val (.int x4), .val (.int (1 : Int32)), .val (.ref l76), .val (.int (1 : Int32)), .val (.int (1 : Int32)), .val (.ref b81), .unset, .unset, .unset, .unset] [(.int (5 : Int32)), (.ref b81)])) (fun _ zk => XS.iconst X91.here hx rfl (hb hby at_114) zk) ?_
    refine Go.st (T' := T91) (g' := (mkF m 116 #[.val (.int x0), .val (.int x1), .val (.long x2), .second, .val (.int x3), .val (.int x4), .val (.int (1 : Int32)), .val (.ref l76), .val (.int (1 : Int32)), .val (.int (1 : Int32)), .val (.ref b81), .unset, .unset, .unset, .unset] [(.long x2), (.int (5 : Int32)), (.ref b81)])) (fun _ zk => XS.lloadN X91.here hx rfl (hb hby at_115) rfl zk) ?_
    refine Go.st (T' := T91) (g' := (mkF m 117 #[.val (.int x0), .val (.int x1), .val (.long x2), .second, .val (.int x3), .val (.int x4), .val (.int (1 : Int32)), .val (.ref l76), .val (.int (1 : Int32)), .val (.int (1 : Int32)), .val (.ref b81), .unset, .unset, .unset, .unset] [(.int (5 : Int32)), (.long x2), (.int (5 : Int32)), (.ref b81)])) (fun _ zk => XS.iconst X91.here hx rfl (hb hby at_116) zk) ?_
    refine Go.callSt (y := (⟨"com/example/tokenweave/tokenweave/engine/BpmnReaderXmlBooleanPinLaw", "space", "(JI)C"⟩ : MethodName)) X91 hx hZ hown e91 (w22 hw) (w23 hw) (w24 hw) (w25 hw) (by decide) (argsL := [(.long x2), (.int (5 : Int32))]) (rest := [(.int (5 : Int32)), (.ref b81)]) (W := 2) (rm_space l Z a0 hw [] x2 (5 : Int32) h91 n0 (Nat.le_trans Z0 (Nat.le_trans (Nat.le_trans (Nat.le_trans (Nat.le_trans (Nat.le_trans (Nat.le_trans E76.1 E81.1) (Keep.of_wr W83).1) (Keep.of_wr W85).1) (Keep.of_wr W87).1) (Keep.of_wr W89).1) (Keep.of_wr W91).1)) ) rfl (lenOf pd32 rfl) rfl (by rw [hml]; rfl) rfl (by show 2 * 0 + _ ≤ _; exact Nat.le_of_eq rfl) (by decide) (by decide) (by decide) (by decide) (hb hby at_117) ?_
    intro v92 T92 h92 L92 X92 e92 q92
    obtain ⟨sp5, hv92, qw5, Nf92, hh92⟩ := q92
    subst hv92
    have E92 : T92.heap = h91 := e92.trans hh92
    have N92 := Fr.app N91 Nf92
    show Go p.tables e below _ T92 (mkF m 120 #[.val (.int x0), .val (.int x1), .val (.long x2), .second, .val (.int x3), .val (.int x4), .val (.int (1 : Int32)), .val (.ref l76), .val (.int (1 : Int32)), .val (.int (1 : Int32)), .val (.ref b81), .unset, .unset, .unset, .unset] [(.int sp5), (.int (5 : Int32)), (.ref b81)])
    obtain ⟨T93, h93, X93, e93, W93, V93, st93⟩ := stCV X92 hx hZ E92 V91' (j := (5 : Int32)) (i := 5) (by decide) rfl (Nat.le_of_ble_eq_true rfl) (g := (mkF m 120 #[.val (.int x0), .val (.int x1), .val (.long x2), .second, .val (.int x3), .val (.int x4), .val (.int (1 : Int32)), .val (.ref l76), .val (.int (1 : Int32)), .val (.int (1 : Int32)), .val (.ref b81), .unset, .unset, .unset, .unset] [(.int sp5), (.int (5 : Int32)), (.ref b81)])) rfl rfl (hb hby at_120)
    rw [nar_cid (x := sp5) (by unfold wsr at qw5; omega)] at V93
    have V93' : Arv Z h93 b81 k81 .char (7 : Int32) [(.int sp0), (.int sp1), (.int sp2), (.int sp3), (.int sp4), (.int sp5), (.int (0 : Int32))] (.int (0 : Int32)) := V93
    have N93 := Fr.snoc X93 N92 (Nat.le_trans Z0 (Nat.le_trans E76.1 (Nat.le_of_eq g81.symm)))
    refine Go.st (T' := T93) (g' := (mkF m 121 #[.val (.int x0), .val (.int x1), .val (.long x2), .second, .val (.int x3), .val (.int x4), .val (.int (1 : Int32)), .val (.ref l76), .val (.int (1 : Int32)), .val (.int (1 : Int32)), .val (.ref b81), .unset, .unset, .unset, .unset] [])) (fun _ zk => st93 _ zk) ?_
    refine Go.st (T' := T93) (g' := (mkF m 123 #[.val (.int x0), .val (.int x1), .val (.long x2), .second, .val (.int x3), .val (.int x4), .val (.int (1 : Int32)), .val (.ref l76), .val (.int (1 : Int32)), .val (.int (1 : Int32)), .val (.ref b81), .unset, .unset, .unset, .unset] [(.ref b81)])) (fun _ zk => XS.aload X93.here hx rfl (hb hby at_121) rfl rfl zk) ?_
    refine Go.st (T' := T93) (g' := (mkF m 125 #[.val (.int x0), .val (.int x1), .val (.long x2), .second, .val (.int x3), .val (.int x4), .val (.int (1 : Int32)), .val (.ref l76), .val (.int (1 : Int32)), .val (.int (1 : Int32)), .val (.ref b81), .unset, .unset, .unset, .unset] [(.int (6 : Int32)), (.ref b81)])) (fun _ zk => XS.bipush X93.here hx rfl (hb hby at_123) zk) ?_
    refine Go.st (T' := T93) (g' := (mkF m 126 #[.val (.int x0), .val (.int x1), .val (.long x2), .second, .val (.int x3), .val (.int x4), .val (.int (1 : Int32)), .val (.ref l76), .val (.int (1 : Int32)), .val (.int (1 : Int32)), .val (.ref b81), .unset, .unset, .unset, .unset] [(.long x2), (.int (6 : Int32)), (.ref b81)])) (fun _ zk => XS.lloadN X93.here hx rfl (hb hby at_125) rfl zk) ?_
    refine Go.st (T' := T93) (g' := (mkF m 128 #[.val (.int x0), .val (.int x1), .val (.long x2), .second, .val (.int x3), .val (.int x4), .val (.int (1 : Int32)), .val (.ref l76), .val (.int (1 : Int32)), .val (.int (1 : Int32)), .val (.ref b81), .unset, .unset, .unset, .unset] [(.int (6 : Int32)), (.long x2), (.int (6 : Int32)), (.ref b81)])) (fun _ zk => XS.bipush X93.here hx rfl (hb hby at_126) zk) ?_
    refine Go.callSt (y := (⟨"com/example/tokenweave/tokenweave/engine/BpmnReaderXmlBooleanPinLaw", "space", "(JI)C"⟩ : MethodName)) X93 hx hZ hown e93 (w22 hw) (w23 hw) (w24 hw) (w25 hw) (by decide) (argsL := [(.long x2), (.int (6 : Int32))]) (rest := [(.int (6 : Int32)), (.ref b81)]) (W := 2) (rm_space l Z a0 hw [] x2 (6 : Int32) h93 n0 (Nat.le_trans Z0 (Nat.le_trans (Nat.le_trans (Nat.le_trans (Nat.le_trans (Nat.le_trans (Nat.le_trans (Nat.le_trans E76.1 E81.1) (Keep.of_wr W83).1) (Keep.of_wr W85).1) (Keep.of_wr W87).1) (Keep.of_wr W89).1) (Keep.of_wr W91).1) (Keep.of_wr W93).1)) ) rfl (lenOf pd32 rfl) rfl (by rw [hml]; rfl) rfl (by show 2 * 0 + _ ≤ _; exact Nat.le_of_eq rfl) (by decide) (by decide) (by decide) (by decide) (hb hby at_128) ?_
    intro v94 T94 h94 L94 X94 e94 q94
    obtain ⟨sp6, hv94, qw6, Nf94, hh94⟩ := q94
    subst hv94
    have E94 : T94.heap = h93 := e94.trans hh94
    have N94 := Fr.app N93 Nf94
    show Go p.tables e below _ T94 (mkF m 131 #[.val (.int x0), .val (.int x1), .val (.long x2), .second, .val (.int x3), .val (.int x4), .val (.int (1 : Int32)), .val (.ref l76), .val (.int (1 : Int32)), .val (.int (1 : Int32)), .val (.ref b81), .unset, .unset, .unset, .unset] [(.int sp6), (.int (6 : Int32)), (.ref b81)])
    obtain ⟨T95, h95, X95, e95, W95, V95, st95⟩ := stCV X94 hx hZ E94 V93' (j := (6 : Int32)) (i := 6) (by decide) rfl (Nat.le_of_ble_eq_true rfl) (g := (mkF m 131 #[.val (.int x0), .val (.int x1), .val (.long x2), .second, .val (.int x3), .val (.int x4), .val (.int (1 : Int32)), .val (.ref l76), .val (.int (1 : Int32)), .val (.int (1 : Int32)), .val (.ref b81), .unset, .unset, .unset, .unset] [(.int sp6), (.int (6 : Int32)), (.ref b81)])) rfl rfl (hb hby at_131)
    rw [nar_cid (x := sp6) (by unfold wsr at qw6; omega)] at V95
    have V95' : Arv Z h95 b81 k81 .char (7 : Int32) [(.int sp0), (.int sp1), (.int sp2), (.int sp3), (.int sp4), (.int sp5), (.int sp6)] (.int (0 : Int32)) := V95
    have N95 := Fr.snoc X95 N94 (Nat.le_trans Z0 (Nat.le_trans E76.1 (Nat.le_of_eq g81.symm)))
    refine Go.st (T' := T95) (g' := (mkF m 132 #[.val (.int x0), .val (.int x1), .val (.long x2), .second, .val (.int x3), .val (.int x4), .val (.int (1 : Int32)), .val (.ref l76), .val (.int (1 : Int32)), .val (.int (1 : Int32)), .val (.ref b81), .unset, .unset, .unset, .unset] [])) (fun _ zk => st95 _ zk) ?_
    refine Go.st (T' := T95) (g' := (mkF m 133 #[.val (.int x0), .val (.int x1), .val (.long x2), .second, .val (.int x3), .val (.int x4), .val (.int (1 : Int32)), .val (.ref l76), .val (.int (1 : Int32)), .val (.int (1 : Int32)), .val (.ref b81), .unset, .unset, .unset, .unset] [(.int x1)])) (fun _ zk => XS.iloadN X95.here hx rfl (hb hby at_132) rfl zk) ?_
    refine Go.st (T' := T95) (g' := (mkF m 135 #[.val (.int x0), .val (.int x1), .val (.long x2), .second, .val (.int x3), .val (.int x4), .val (.int (1 : Int32)), .val (.ref l76), .val (.int (1 : Int32)), .val (.int (1 : Int32)), .val (.ref b81), .unset, .unset, .unset, .unset] [(.int (2147483647 : Int32)), (.int x1)])) (fun _ zk => X95.ldcI hx hown (mvT hZ (w27 hw)) rfl (hb hby at_133) zk) ?_
    refine Go.st (T' := T95) (g' := (mkF m 136 #[.val (.int x0), .val (.int x1), .val (.long x2), .second, .val (.int x3), .val (.int x4), .val (.int (1 : Int32)), .val (.ref l76), .val (.int (1 : Int32)), .val (.int (1 : Int32)), .val (.ref b81), .unset, .unset, .unset, .unset] [(.int (x1 &&& (2147483647 : Int32)))])) (fun _ zk => XS.iand X95.here hx rfl (hb hby at_135) rfl zk) ?_
    refine Go.st (T' := T95) (g' := (mkF m 138 #[.val (.int x0), .val (.int x1), .val (.long x2), .second, .val (.int x3), .val (.int x4), .val (.int (1 : Int32)), .val (.ref l76), .val (.int (1 : Int32)), .val (.int (1 : Int32)), .val (.ref b81), .unset, .unset, .unset, .unset] [(.int (8 : Int32)), (.int (x1 &&& (2147483647 : Int32)))])) (fun _ zk => XS.bipush X95.here hx rfl (hb hby at_136) zk) ?_
    refine Go.st (T' := T95) (g' := (mkF m 140 #[.val (.int x0), .val (.int x1), .val (.long x2), .second, .val (.int x3), .val (.int x4), .val (.int (1 : Int32)), .val (.ref l76), .val (.int (1 : Int32)), .val (.int (1 : Int32)), .val (.ref b81), .unset, .unset, .unset, .unset] [(.int (1 : Int32)), (.int (8 : Int32)), (.int (x1 &&& (2147483647 : Int32)))])) (fun _ zk => XS.iload X95.here hx rfl (hb hby at_138) rfl zk) ?_
    refine Go.st (T' := T95) (g' := (mkF m 141 #[.val (.int x0), .val (.int x1), .val (.long x2), .second, .val (.int x3), .val (.int x4), .val (.int (1 : Int32)), .val (.ref l76), .val (.int (1 : Int32)), .val (.int (1 : Int32)), .val (.ref b81), .unset, .unset, .unset, .unset] [(.int ((8 : Int32) - (1 : Int32))), (.int (x1 &&& (2147483647 : Int32)))])) (fun _ zk => XS.isub X95.here hx rfl (hb hby at_140) rfl zk) ?_
    rw [show ((8 : Int32) - (1 : Int32)) = (7 : Int32) from by decide]
    refine Go.st (T' := T95) (g' := (mkF m 142 #[.val (.int x0), .val (.int x1), .val (.long x2), .second, .val (.int x3), .val (.int x4), .val (.int (1 : Int32)), .val (.ref l76), .val (.int (1 : Int32)), .val (.int (1 : Int32)), .val (.ref b81), .unset, .unset, .unset, .unset] [(.int ((x1 &&& (2147483647 : Int32)) % (7 : Int32)))])) (fun _ zk => iremM X95 hx rfl (hb hby at_141) rfl (by decide) zk) ?_
    obtain ⟨pn, hpn, hlt⟩ := own_pn x1 (7 : Int32) 7 (by decide) (by decide)
    rw [hpn]
    have V96 : Arv Z h95 b81 k81 .char (7 : Int32) (([sp0, sp1, sp2, sp3, sp4, sp5, sp6] : List Int32).map Value.int) (.int (0 : Int32)) := V95'
    have hwl : ∀ c ∈ ([sp0, sp1, sp2, sp3, sp4, sp5, sp6] : List Int32), wsr c := by
      simp only [List.forall_mem_cons]
      exact ⟨qw0, qw1, qw2, qw3, qw4, qw5, qw6, fun _ q => nomatch q⟩
    refine Go.st (T' := T95) (g' := (mkF m 144 #[.val (.int x0), .val (.int x1), .val (.long x2), .second, .val (.int x3), .val (.int x4), .val (.int (1 : Int32)), .val (.ref l76), .val (.int (1 : Int32)), .val (.int (1 : Int32)), .val (.ref b81), .val (.int (Int32.ofNat pn)), .unset, .unset, .unset] [])) (fun _ zk => XS.istore X95.here hx rfl (hb hby at_142) rfl (l' := #[.val (.int x0), .val (.int x1), .val (.long x2), .second, .val (.int x3), .val (.int x4), .val (.int (1 : Int32)), .val (.ref l76), .val (.int (1 : Int32)), .val (.int (1 : Int32)), .val (.ref b81), .val (.int (Int32.ofNat pn)), .unset, .unset, .unset]) rfl zk) ?_
    refine Go.st (T' := T95) (g' := (mkF m 146 #[.val (.int x0), .val (.int x1), .val (.long x2), .second, .val (.int x3), .val (.int x4), .val (.int (1 : Int32)), .val (.ref l76), .val (.int (1 : Int32)), .val (.int (1 : Int32)), .val (.ref b81), .val (.int (Int32.ofNat pn)), .unset, .unset, .unset] [(.ref b81)])) (fun _ zk => XS.aload X95.here hx rfl (hb hby at_144) rfl rfl zk) ?_
    refine Go.st (T' := T95) (g' := (mkF m 148 #[.val (.int x0), .val (.int x1), .val (.long x2), .second, .val (.int x3), .val (.int x4), .val (.int (1 : Int32)), .val (.ref l76), .val (.int (1 : Int32)), .val (.int (1 : Int32)), .val (.ref b81), .val (.int (Int32.ofNat pn)), .unset, .unset, .unset] [(.int (Int32.ofNat pn)), (.ref b81)])) (fun _ zk => XS.iload X95.here hx rfl (hb hby at_146) rfl zk) ?_
    refine Go.st (T' := T95) (g' := (mkF m 150 #[.val (.int x0), .val (.int x1), .val (.long x2), .second, .val (.int x3), .val (.int x4), .val (.int (1 : Int32)), .val (.ref l76), .val (.int (1 : Int32)), .val (.int (1 : Int32)), .val (.ref b81), .val (.int (Int32.ofNat pn)), .unset, .unset, .unset] [(.ref l76), (.int (Int32.ofNat pn)), (.ref b81)])) (fun _ zk => XS.aload X95.here hx rfl (hb hby at_148) rfl rfl zk) ?_
    refine Go.st (T' := T95) (g' := (mkF m 151 #[.val (.int x0), .val (.int x1), .val (.long x2), .second, .val (.int x3), .val (.int x4), .val (.int (1 : Int32)), .val (.ref l76), .val (.int (1 : Int32)), .val (.int (1 : Int32)), .val (.ref b81), .val (.int (Int32.ofNat pn)), .unset, .unset, .unset] [(.int (0 : Int32)), (.ref l76), (.int (Int32.ofNat pn)), (.ref b81)])) (fun _ zk => XS.iconst X95.here hx rfl (hb hby at_150) zk) ?_
    have xt97 : Ext h76 h95 := (((((((E81.thenW W83 (Nat.le_of_eq g81.symm)).thenW W85 (Nat.le_of_eq g81.symm)).thenW W87 (Nat.le_of_eq g81.symm)).thenW W89 (Nat.le_of_eq g81.symm)).thenW W91 (Nat.le_of_eq g81.symm)).thenW W93 (Nat.le_of_eq g81.symm)).thenW W95 (Nat.le_of_eq g81.symm))
    have f98 := SL.ext xt97
    have f100 := f80.ext xt97
    have f101 := A76.ext xt97
    refine Go.callV (y := (⟨"java/lang/String", "charAt", "(I)C"⟩ : MethodName)) (z := (⟨"java/lang/String", "charAt", "(I)C"⟩ : MethodName)) (C := "java/lang/String") (a := l76) X95 hx hZ hown e95 (w28 hw) (w29 hw) (w31 hw) (w30 hw) (w1 hw) (w32 hw) (notFace_of_selects (args := #[]) (mvT hZ (w31 hw))) (by decide) f101 (argsL := [(.int (0 : Int32))]) (rest := [(.int (Int32.ofNat pn)), (.ref b81)]) (W := 2) (rm_charAtG l Z a0 hw [] l76 [(49 : Int32)] 0 zc fm h95 n0 (Nat.le_trans Z0 (Nat.le_trans (Nat.le_trans (Nat.le_trans (Nat.le_trans (Nat.le_trans (Nat.le_trans (Nat.le_trans (Nat.le_trans E76.1 E81.1) (Keep.of_wr W83).1) (Keep.of_wr W85).1) (Keep.of_wr W87).1) (Keep.of_wr W89).1) (Keep.of_wr W91).1) (Keep.of_wr W93).1) (Keep.of_wr W95).1)) f100 f98 (by decide) (by decide) CS hz FM rf) rfl (lenOf pd33 rfl) rfl (by rw [hml]; rfl) rfl (by show 2 * 0 + _ ≤ _; exact Nat.le_of_eq rfl) (by decide) (by decide) (by decide) (by decide) (hb hby at_151) ?_
    intro v99 T99 h99 L99 X99 e99 q99
    obtain ⟨hv99, Nf99, hh99⟩ := q99
    subst hv99
    have E99 : T99.heap = h95 := e99.trans hh99
    have N99 := Fr.app N95 Nf99
    show Go p.tables e below _ T99 (mkF m 154 #[.val (.int x0), .val (.int x1), .val (.long x2), .second, .val (.int x3), .val (.int x4), .val (.int (1 : Int32)), .val (.ref l76), .val (.int (1 : Int32)), .val (.int (1 : Int32)), .val (.ref b81), .val (.int (Int32.ofNat pn)), .unset, .unset, .unset] [(.int (((([(49 : Int32)] : List Int32).getD 0 0) &&& (255 : Int32)).toUInt32.toUInt16.toUInt32.toInt32)), (.int (Int32.ofNat pn)), (.ref b81)])
    rw [show (((([(49 : Int32)] : List Int32).getD 0 0) &&& (255 : Int32)).toUInt32.toUInt16.toUInt32.toInt32) = (49 : Int32) from by decide]
    obtain ⟨T102, h102, X102, e102, W102, V102, st102⟩ := stCV X99 hx hZ E99 V96 (j := (Int32.ofNat pn)) (i := pn) ⟨own_ofn0 (by omega), own_oflt (n := 7) (by omega) (by omega)⟩ (own_clamp (by omega)) (by simp only [List.length_map, List.length_set, List.length_cons, List.length_nil]; omega) (g := (mkF m 154 #[.val (.int x0), .val (.int x1), .val (.long x2), .second, .val (.int x3), .val (.int x4), .val (.int (1 : Int32)), .val (.ref l76), .val (.int (1 : Int32)), .val (.int (1 : Int32)), .val (.ref b81), .val (.int (Int32.ofNat pn)), .unset, .unset, .unset] [(.int (49 : Int32)), (.int (Int32.ofNat pn)), (.ref b81)])) rfl rfl (hb hby at_154)
    rw [show nar .char (49 : Int32) = (49 : Int32) from by decide, ← List.map_set] at V102
    have N102 := Fr.snoc X102 N99 (Nat.le_trans Z0 (Nat.le_trans E76.1 (Nat.le_of_eq g81.symm)))
    refine Go.st (T' := T102) (g' := (mkF m 155 #[.val (.int x0), .val (.int x1), .val (.long x2), .second, .val (.int x3), .val (.int x4), .val (.int (1 : Int32)), .val (.ref l76), .val (.int (1 : Int32)), .val (.int (1 : Int32)), .val (.ref b81), .val (.int (Int32.ofNat pn)), .unset, .unset, .unset] [])) (fun _ zk => st102 _ zk) ?_
    refine Go.st (T' := T102) (g' := (mkF m 157 #[.val (.int x0), .val (.int x1), .val (.long x2), .second, .val (.int x3), .val (.int x4), .val (.int (1 : Int32)), .val (.ref l76), .val (.int (1 : Int32)), .val (.int (1 : Int32)), .val (.ref b81), .val (.int (Int32.ofNat pn)), .unset, .unset, .unset] [(.int (1 : Int32))])) (fun _ zk => XS.iload X102.here hx rfl (hb hby at_155) rfl zk) ?_
    refine Go.st (T' := T102) (g' := (mkF m 158 #[.val (.int x0), .val (.int x1), .val (.long x2), .second, .val (.int x3), .val (.int x4), .val (.int (1 : Int32)), .val (.ref l76), .val (.int (1 : Int32)), .val (.int (1 : Int32)), .val (.ref b81), .val (.int (Int32.ofNat pn)), .unset, .unset, .unset] [(.int (1 : Int32)), (.int (1 : Int32))])) (fun _ zk => XS.iconst X102.here hx rfl (hb hby at_157) zk) ?_
    refine Go.st (T' := T102) (g' := (mkF m 174 #[.val (.int x0), .val (.int x1), .val (.long x2), .second, .val (.int x3), .val (.int x4), .val (.int (1 : Int32)), .val (.ref l76), .val (.int (1 : Int32)), .val (.int (1 : Int32)), .val (.ref b81), .val (.int (Int32.ofNat pn)), .unset, .unset, .unset] [])) (fun _ zk => XS.icmpYes X102.here hx rfl (pc0 := 158) (pc' := 174) rfl (hb hby at_158) rfl (flt ((by decide) : ¬ ((1 : Int32) < (1 : Int32)))).2.2.2 (by decide) (by decide) zk) ?_
    refine Go.st (T' := T102) (g' := (mkF m 176 #[.val (.int x0), .val (.int x1), .val (.long x2), .second, .val (.int x3), .val (.int x4), .val (.int (1 : Int32)), .val (.ref l76), .val (.int (1 : Int32)), .val (.int (1 : Int32)), .val (.ref b81), .val (.int (Int32.ofNat pn)), .unset, .unset, .unset] [(.int (1 : Int32))])) (fun _ zk => XS.iload X102.here hx rfl (hb hby at_174) rfl zk) ?_
    refine Go.st (T' := T102) (g' := (mkF m 177 #[.val (.int x0), .val (.int x1), .val (.long x2), .second, .val (.int x3), .val (.int x4), .val (.int (1 : Int32)), .val (.ref l76), .val (.int (1 : Int32)), .val (.int (1 : Int32)), .val (.ref b81), .val (.int (Int32.ofNat pn)), .unset, .unset, .unset] [(.int (2 : Int32)), (.int (1 : Int32))])) (fun _ zk => XS.iconst X102.here hx rfl (hb hby at_176) zk) ?_
    refine Go.st (T' := T102) (g' := (mkF m 193 #[.val (.int x0), .val (.int x1), .val (.long x2), .second, .val (.int x3), .val (.int x4), .val (.int (1 : Int32)), .val (.ref l76), .val (.int (1 : Int32)), .val (.int (1 : Int32)), .val (.ref b81), .val (.int (Int32.ofNat pn)), .unset, .unset, .unset] [])) (fun _ zk => XS.icmpYes X102.here hx rfl (pc0 := 177) (pc' := 193) rfl (hb hby at_177) rfl (flt ((by decide) : ¬ ((2 : Int32) < (1 : Int32)))).2.2.2 (by decide) (by decide) zk) ?_
    refine Go.st (T' := T102) (g' := (mkF m 195 #[.val (.int x0), .val (.int x1), .val (.long x2), .second, .val (.int x3), .val (.int x4), .val (.int (1 : Int32)), .val (.ref l76), .val (.int (1 : Int32)), .val (.int (1 : Int32)), .val (.ref b81), .val (.int (Int32.ofNat pn)), .unset, .unset, .unset] [(.int (1 : Int32))])) (fun _ zk => XS.iload X102.here hx rfl (hb hby at_193) rfl zk) ?_
    refine Go.st (T' := T102) (g' := (mkF m 196 #[.val (.int x0), .val (.int x1), .val (.long x2), .second, .val (.int x3), .val (.int x4), .val (.int (1 : Int32)), .val (.ref l76), .val (.int (1 : Int32)), .val (.int (1 : Int32)), .val (.ref b81), .val (.int (Int32.ofNat pn)), .unset, .unset, .unset] [(.int (3 : Int32)), (.int (1 : Int32))])) (fun _ zk => XS.iconst X102.here hx rfl (hb hby at_195) zk) ?_
    refine Go.st (T' := T102) (g' := (mkF m 212 #[.val (.int x0), .val (.int x1), .val (.long x2), .second, .val (.int x3), .val (.int x4), .val (.int (1 : Int32)), .val (.ref l76), .val (.int (1 : Int32)), .val (.int (1 : Int32)), .val (.ref b81), .val (.int (Int32.ofNat pn)), .unset, .unset, .unset] [])) (fun _ zk => XS.icmpYes X102.here hx rfl (pc0 := 196) (pc' := 212) rfl (hb hby at_196) rfl (flt ((by decide) : ¬ ((3 : Int32) < (1 : Int32)))).2.2.2 (by decide) (by decide) zk) ?_
    refine Go.st (T' := T102) (g' := (mkF m 214 #[.val (.int x0), .val (.int x1), .val (.long x2), .second, .val (.int x3), .val (.int x4), .val (.int (1 : Int32)), .val (.ref l76), .val (.int (1 : Int32)), .val (.int (1 : Int32)), .val (.ref b81), .val (.int (Int32.ofNat pn)), .unset, .unset, .unset] [(.int (1 : Int32))])) (fun _ zk => XS.iload X102.here hx rfl (hb hby at_212) rfl zk) ?_
    refine Go.st (T' := T102) (g' := (mkF m 215 #[.val (.int x0), .val (.int x1), .val (.long x2), .second, .val (.int x3), .val (.int x4), .val (.int (1 : Int32)), .val (.ref l76), .val (.int (1 : Int32)), .val (.int (1 : Int32)), .val (.ref b81), .val (.int (Int32.ofNat pn)), .unset, .unset, .unset] [(.int (4 : Int32)), (.int (1 : Int32))])) (fun _ zk => XS.iconst X102.here hx rfl (hb hby at_214) zk) ?_
    refine Go.st (T' := T102) (g' := (mkF m 231 #[.val (.int x0), .val (.int x1), .val (.long x2), .second, .val (.int x3), .val (.int x4), .val (.int (1 : Int32)), .val (.ref l76), .val (.int (1 : Int32)), .val (.int (1 : Int32)), .val (.ref b81), .val (.int (Int32.ofNat pn)), .unset, .unset, .unset] [])) (fun _ zk => XS.icmpYes X102.here hx rfl (pc0 := 215) (pc' := 231) rfl (hb hby at_215) rfl (flt ((by decide) : ¬ ((4 : Int32) < (1 : Int32)))).2.2.2 (by decide) (by decide) zk) ?_
    refine Go.st (T' := T102) (g' := (mkF m 233 #[.val (.int x0), .val (.int x1), .val (.long x2), .second, .val (.int x3), .val (.int x4), .val (.int (1 : Int32)), .val (.ref l76), .val (.int (1 : Int32)), .val (.int (1 : Int32)), .val (.ref b81), .val (.int (Int32.ofNat pn)), .unset, .unset, .unset] [(.int x3)])) (fun _ zk => XS.iload X102.here hx rfl (hb hby at_231) rfl zk) ?_
    refine Go.st (T' := T102) (g' := (mkF m 234 #[.val (.int x0), .val (.int x1), .val (.long x2), .second, .val (.int x3), .val (.int x4), .val (.int (1 : Int32)), .val (.ref l76), .val (.int (1 : Int32)), .val (.int (1 : Int32)), .val (.ref b81), .val (.int (Int32.ofNat pn)), .unset, .unset, .unset] [(.int (1 : Int32)), (.int x3)])) (fun _ zk => XS.iconst X102.here hx rfl (hb hby at_233) zk) ?_
    refine Go.st (T' := T102) (g' := (mkF m 235 #[.val (.int x0), .val (.int x1), .val (.long x2), .second, .val (.int x3), .val (.int x4), .val (.int (1 : Int32)), .val (.ref l76), .val (.int (1 : Int32)), .val (.int (1 : Int32)), .val (.ref b81), .val (.int (Int32.ofNat pn)), .unset, .unset, .unset] [(.int (x3 &&& (1 : Int32)))])) (fun _ zk => XS.iand X102.here hx rfl (hb hby at_234) rfl zk) ?_
    by_cases hc235 : (x3 &&& (1 : Int32)) = (0 : Int32)
    · refine Go.st (T' := T102) (g' := (mkF m 250 #[.val (.int x0), .val (.int x1), .val (.long x2), .second, .val (.int x3), .val (.int x4), .val (.int (1 : Int32)), .val (.ref l76), .val (.int (1 : Int32)), .val (.int (1 : Int32)), .val (.ref b81), .val (.int (Int32.ofNat pn)), .unset, .unset, .unset] [])) (fun _ zk => XS.ifYes X102.here hx rfl (pc0 := 235) (pc' := 250) rfl (hb hby at_235) rfl ((if0 _ _).trans (teq hc235).1) (by decide) (by decide) zk) ?_
      refine Go.st (T' := T102) (g' := (mkF m 252 #[.val (.int x0), .val (.int x1), .val (.long x2), .second, .val (.int x3), .val (.int x4), .val (.int (1 : Int32)), .val (.ref l76), .val (.int (1 : Int32)), .val (.int (1 : Int32)), .val (.ref b81), .val (.int (Int32.ofNat pn)), .unset, .unset, .unset] [(.ref l76)])) (fun _ zk => XS.aload X102.here hx rfl (hb hby at_250) rfl rfl zk) ?_
      refine Go.st (T' := T102) (g' := (mkF m 254 #[.val (.int x0), .val (.int x1), .val (.long x2), .second, .val (.int x3), .val (.int x4), .val (.int (1 : Int32)), .val (.ref l76), .val (.int (1 : Int32)), .val (.int (1 : Int32)), .val (.ref b81), .val (.int (Int32.ofNat pn)), .val (.ref l76), .unset, .unset] [])) (fun _ zk => XS.astore X102.here hx rfl (hb hby at_252) rfl rfl (l' := #[.val (.int x0), .val (.int x1), .val (.long x2), .second, .val (.int x3), .val (.int x4), .val (.int (1 : Int32)), .val (.ref l76), .val (.int (1 : Int32)), .val (.int (1 : Int32)), .val (.ref b81), .val (.int (Int32.ofNat pn)), .val (.ref l76), .unset, .unset]) rfl zk) ?_
      refine Go.st (T' := T102) (g' := (mkF m 256 #[.val (.int x0), .val (.int x1), .val (.long x2), .second, .val (.int x3), .val (.int x4), .val (.int (1 : Int32)), .val (.ref l76), .val (.int (1 : Int32)), .val (.int (1 : Int32)), .val (.ref b81), .val (.int (Int32.ofNat pn)), .val (.ref l76), .unset, .unset] [(.int x4)])) (fun _ zk => XS.iload X102.here hx rfl (hb hby at_254) rfl zk) ?_
      refine Go.st (T' := T102) (g' := (mkF m 259 #[.val (.int x0), .val (.int x1), .val (.long x2), .second, .val (.int x3), .val (.int x4), .val (.int (1 : Int32)), .val (.ref l76), .val (.int (1 : Int32)), .val (.int (1 : Int32)), .val (.ref b81), .val (.int (Int32.ofNat pn)), .val (.ref l76), .unset, .unset] [(.int (255 : Int32)), (.int x4)])) (fun _ zk => XS.sipush X102.here hx rfl (hb hby at_256) zk) ?_
      refine Go.st (T' := T102) (g' := (mkF m 260 #[.val (.int x0), .val (.int x1), .val (.long x2), .second, .val (.int x3), .val (.int x4), .val (.int (1 : Int32)), .val (.ref l76), .val (.int (1 : Int32)), .val (.int (1 : Int32)), .val (.ref b81), .val (.int (Int32.ofNat pn)), .val (.ref l76), .unset, .unset] [(.int (x4 &&& (255 : Int32)))])) (fun _ zk => XS.iand X102.here hx rfl (hb hby at_259) rfl zk) ?_
      refine Go.st (T' := T102) (g' := (mkF m 261 #[.val (.int x0), .val (.int x1), .val (.long x2), .second, .val (.int x3), .val (.int x4), .val (.int (1 : Int32)), .val (.ref l76), .val (.int (1 : Int32)), .val (.int (1 : Int32)), .val (.ref b81), .val (.int (Int32.ofNat pn)), .val (.ref l76), .unset, .unset] [(.int ((x4 &&& (255 : Int32)).toUInt32.toUInt16.toUInt32.toInt32))])) (fun _ zk => XS.i2c X102.here hx rfl (hb hby at_260) rfl zk) ?_
      have f104 := (f100.wr W102 (Nat.le_trans Z0 (Nat.le_trans E76.1 (Nat.le_of_eq g81.symm))))
      refine Go.callSt (y := (⟨"java/lang/String", "valueOf", "(C)Ljava/lang/String;"⟩ : MethodName)) X102 hx hZ hown e102 (w50 hw) (w51 hw) (w1 hw) (w52 hw) (by decide) (argsL := [(.int ((x4 &&& (255 : Int32)).toUInt32.toUInt16.toUInt32.toInt32))]) (rest := []) (W := 0) (rm_valueOfC l Z a0 hw [] ((x4 &&& (255 : Int32)).toUInt32.toUInt16.toUInt32.toInt32) zc h102 n0 (Nat.le_trans Z0 (Nat.le_trans (Nat.le_trans (Nat.le_trans (Nat.le_trans (Nat.le_trans (Nat.le_trans (Nat.le_trans (Nat.le_trans (Nat.le_trans E76.1 E81.1) (Keep.of_wr W83).1) (Keep.of_wr W85).1) (Keep.of_wr W87).1) (Keep.of_wr W89).1) (Keep.of_wr W91).1) (Keep.of_wr W93).1) (Keep.of_wr W95).1) (Keep.of_wr W102).1)) f104 (le255 (and255 x4)) CS hz) rfl (lenOf pd34 rfl) rfl (by rw [hml]; rfl) rfl (by show 2 * 0 + _ ≤ _; exact Nat.le_of_eq rfl) (by decide) (by decide) (by decide) (by decide) (hb hby at_261) ?_
      intro v103 T103 h103 L103 X103 e103 q103
      obtain ⟨a103, hv103, Nf103, E103, ge103, S103⟩ := q103
      subst hv103
      have N103 := Fr.app N102 Nf103
      show Go p.tables e below _ T103 (mkF m 264 #[.val (.int x0), .val (.int x1), .val (.long x2), .second, .val (.int x3), .val (.int x4), .val (.int (1 : Int32)), .val (.ref l76), .val (.int (1 : Int32)), .val (.int (1 : Int32)), .val (.ref b81), .val (.int (Int32.ofNat pn)), .val (.ref l76), .unset, .unset] [(.ref a103)])
      refine Go.st (T' := T103) (g' := (mkF m 266 #[.val (.int x0), .val (.int x1), .val (.long x2), .second, .val (.int x3), .val (.int x4), .val (.int (1 : Int32)), .val (.ref l76), .val (.int (1 : Int32)), .val (.int (1 : Int32)), .val (.ref b81), .val (.int (Int32.ofNat pn)), .val (.ref l76), .val (.ref a103), .unset] [])) (fun _ zk => XS.astore X103.here hx rfl (hb hby at_264) rfl rfl (l' := #[.val (.int x0), .val (.int x1), .val (.long x2), .second, .val (.int x3), .val (.int x4), .val (.int (1 : Int32)), .val (.ref l76), .val (.int (1 : Int32)), .val (.int (1 : Int32)), .val (.ref b81), .val (.int (Int32.ofNat pn)), .val (.ref l76), .val (.ref a103), .unset]) rfl zk) ?_
      refine Go.st (T' := T103) (g' := (mkF m 268 #[.val (.int x0), .val (.int x1), .val (.long x2), .second, .val (.int x3), .val (.int x4), .val (.int (1 : Int32)), .val (.ref l76), .val (.int (1 : Int32)), .val (.int (1 : Int32)), .val (.ref b81), .val (.int (Int32.ofNat pn)), .val (.ref l76), .val (.ref a103), .unset] [(.int x4)])) (fun _ zk => XS.iload X103.here hx rfl (hb hby at_266) rfl zk) ?_
      refine Go.st (T' := T103) (g' := (mkF m 270 #[.val (.int x0), .val (.int x1), .val (.long x2), .second, .val (.int x3), .val (.int x4), .val (.int (1 : Int32)), .val (.ref l76), .val (.int (1 : Int32)), .val (.int (1 : Int32)), .val (.ref b81), .val (.int (Int32.ofNat pn)), .val (.ref l76), .val (.ref a103), .unset] [(.int (8 : Int32)), (.int x4)])) (fun _ zk => XS.bipush X103.here hx rfl (hb hby at_268) zk) ?_
      refine Go.st (T' := T103) (g' := (mkF m 271 #[.val (.int x0), .val (.int x1), .val (.long x2), .second, .val (.int x3), .val (.int x4), .val (.int (1 : Int32)), .val (.ref l76), .val (.int (1 : Int32)), .val (.int (1 : Int32)), .val (.ref b81), .val (.int (Int32.ofNat pn)), .val (.ref l76), .val (.ref a103), .unset] [(.int ((x4.toUInt32 >>> ((8 : Int32) &&& 31).toUInt32).toInt32))])) (fun _ zk => XS.iushr X103.here hx rfl (hb hby at_270) rfl zk) ?_
      refine Go.st (T' := T103) (g' := (mkF m 274 #[.val (.int x0), .val (.int x1), .val (.long x2), .second, .val (.int x3), .val (.int x4), .val (.int (1 : Int32)), .val (.ref l76), .val (.int (1 : Int32)), .val (.int (1 : Int32)), .val (.ref b81), .val (.int (Int32.ofNat pn)), .val (.ref l76), .val (.ref a103), .unset] [(.int (255 : Int32)), (.int ((x4.toUInt32 >>> ((8 : Int32) &&& 31).toUInt32).toInt32))])) (fun _ zk => XS.sipush X103.here hx rfl (hb hby at_271) zk) ?_
      refine Go.st (T' := T103) (g' := (mkF m 275 #[.val (.int x0), .val (.int x1), .val (.long x2), .second, .val (.int x3), .val (.int x4), .val (.int (1 : Int32)), .val (.ref l76), .val (.int (1 : Int32)), .val (.int (1 : Int32)), .val (.ref b81), .val (.int (Int32.ofNat pn)), .val (.ref l76), .val (.ref a103), .unset] [(.int (((x4.toUInt32 >>> ((8 : Int32) &&& 31).toUInt32).toInt32) &&& (255 : Int32)))])) (fun _ zk => XS.iand X103.here hx rfl (hb hby at_274) rfl zk) ?_
      refine Go.st (T' := T103) (g' := (mkF m 276 #[.val (.int x0), .val (.int x1), .val (.long x2), .second, .val (.int x3), .val (.int x4), .val (.int (1 : Int32)), .val (.ref l76), .val (.int (1 : Int32)), .val (.int (1 : Int32)), .val (.ref b81), .val (.int (Int32.ofNat pn)), .val (.ref l76), .val (.ref a103), .unset] [(.int ((((x4.toUInt32 >>> ((8 : Int32) &&& 31).toUInt32).toInt32) &&& (255 : Int32)).toUInt32.toUInt16.toUInt32.toInt32))])) (fun _ zk => XS.i2c X103.here hx rfl (hb hby at_275) rfl zk) ?_
      have xt106 : Ext h102 h103 := E103
      have f107 := f104.ext xt106
      refine Go.callSt (y := (⟨"java/lang/String", "valueOf", "(C)Ljava/lang/String;"⟩ : MethodName)) X103 hx hZ hown e103 (w50 hw) (w51 hw) (w1 hw) (w52 hw) (by decide) (argsL := [(.int ((((x4.toUInt32 >>> ((8 : Int32) &&& 31).toUInt32).toInt32) &&& (255 : Int32)).toUInt32.toUInt16.toUInt32.toInt32))]) (rest := []) (W := 0) (rm_valueOfC l Z a0 hw [] ((((x4.toUInt32 >>> ((8 : Int32) &&& 31).toUInt32).toInt32) &&& (255 : Int32)).toUInt32.toUInt16.toUInt32.toInt32) zc h103 n0 (Nat.le_trans Z0 (Nat.le_trans (Nat.le_trans (Nat.le_trans (Nat.le_trans (Nat.le_trans (Nat.le_trans (Nat.le_trans (Nat.le_trans (Nat.le_trans (Nat.le_trans E76.1 E81.1) (Keep.of_wr W83).1) (Keep.of_wr W85).1) (Keep.of_wr W87).1) (Keep.of_wr W89).1) (Keep.of_wr W91).1) (Keep.of_wr W93).1) (Keep.of_wr W95).1) (Keep.of_wr W102).1) E103.1)) f107 (le255 (and255 ((x4.toUInt32 >>> ((8 : Int32) &&& 31).toUInt32).toInt32))) CS hz) rfl (lenOf pd34 rfl) rfl (by rw [hml]; rfl) rfl (by show 2 * 0 + _ ≤ _; exact Nat.le_of_eq rfl) (by decide) (by decide) (by decide) (by decide) (hb hby at_276) ?_
      intro v105 T105 h105 L105 X105 e105 q105
      obtain ⟨a105, hv105, Nf105, E105, ge105, S105⟩ := q105
      subst hv105
      have N105 := Fr.app N103 Nf105
      show Go p.tables e below _ T105 (mkF m 279 #[.val (.int x0), .val (.int x1), .val (.long x2), .second, .val (.int x3), .val (.int x4), .val (.int (1 : Int32)), .val (.ref l76), .val (.int (1 : Int32)), .val (.int (1 : Int32)), .val (.ref b81), .val (.int (Int32.ofNat pn)), .val (.ref l76), .val (.ref a103), .unset] [(.ref a105)])
      refine Go.st (T' := T105) (g' := (mkF m 281 #[.val (.int x0), .val (.int x1), .val (.long x2), .second, .val (.int x3), .val (.int x4), .val (.int (1 : Int32)), .val (.ref l76), .val (.int (1 : Int32)), .val (.int (1 : Int32)), .val (.ref b81), .val (.int (Int32.ofNat pn)), .val (.ref l76), .val (.ref a103), .val (.ref a105)] [])) (fun _ zk => XS.astore X105.here hx rfl (hb hby at_279) rfl rfl (l' := #[.val (.int x0), .val (.int x1), .val (.long x2), .second, .val (.int x3), .val (.int x4), .val (.int (1 : Int32)), .val (.ref l76), .val (.int (1 : Int32)), .val (.int (1 : Int32)), .val (.ref b81), .val (.int (Int32.ofNat pn)), .val (.ref l76), .val (.ref a103), .val (.ref a105)]) rfl zk) ?_
      refine Go.st (T' := T105) (g' := (mkF m 283 #[.val (.int x0), .val (.int x1), .val (.long x2), .second, .val (.int x3), .val (.int x4), .val (.int (1 : Int32)), .val (.ref l76), .val (.int (1 : Int32)), .val (.int (1 : Int32)), .val (.ref b81), .val (.int (Int32.ofNat pn)), .val (.ref l76), .val (.ref a103), .val (.ref a105)] [(.ref a103)])) (fun _ zk => XS.aload X105.here hx rfl (hb hby at_281) rfl rfl zk) ?_
      refine Go.st (T' := T105) (g' := (mkF m 285 #[.val (.int x0), .val (.int x1), .val (.long x2), .second, .val (.int x3), .val (.int x4), .val (.int (1 : Int32)), .val (.ref l76), .val (.int (1 : Int32)), .val (.int (1 : Int32)), .val (.ref b81), .val (.int (Int32.ofNat pn)), .val (.ref l76), .val (.ref a103), .val (.ref a105)] [(.ref a105), (.ref a103)])) (fun _ zk => XS.aload X105.here hx rfl (hb hby at_283) rfl rfl zk) ?_
      refine Go.st (T' := T105) (g' := (mkF m 287 #[.val (.int x0), .val (.int x1), .val (.long x2), .second, .val (.int x3), .val (.int x4), .val (.int (1 : Int32)), .val (.ref l76), .val (.int (1 : Int32)), .val (.int (1 : Int32)), .val (.ref b81), .val (.int (Int32.ofNat pn)), .val (.ref l76), .val (.ref a103), .val (.ref a105)] [(.ref l76), (.ref a105), (.ref a103)])) (fun _ zk => XS.aload X105.here hx rfl (hb hby at_285) rfl rfl zk) ?_
      have xt108 : Ext h76 h105 := (((xt97.thenW W102 (Nat.le_of_eq g81.symm)).tr E103).tr E105)
      have f109 := SL.ext xt108
      have xt111 : Ext h103 h105 := E105
      have f112 := f107.ext xt111
      have cr113 := chrE ca77 xt108
      refine Go.callStS (y := (⟨"com/example/tokenweave/tokenweave/engine/BpmnReader", "xmlBoolean", "(Ljava/lang/String;Ljava/lang/String;Ljava/lang/String;)Z"⟩ : MethodName)) X105 hx hZ hown e105 hEL cr113.1 hS (Nat.le_trans hk76 (Nat.le_trans (Nat.le_trans (Nat.le_trans (Nat.le_trans (Nat.le_trans (Nat.le_trans (Nat.le_trans (Nat.le_trans (Nat.le_trans (Nat.le_trans E81.1 (Keep.of_wr W83).1) (Keep.of_wr W85).1) (Keep.of_wr W87).1) (Keep.of_wr W89).1) (Keep.of_wr W91).1) (Keep.of_wr W93).1) (Keep.of_wr W95).1) (Keep.of_wr W102).1) E103.1) E105.1)) (w67 hw) (w68 hw) (w69 hw) (w70 hw) (by decide) (argsL := [(.ref a103), (.ref a105), (.ref l76)]) (rest := []) (W := 0) (rm_xmlBool l Z a0 hw [] a103 a105 l76 [(49 : Int32)] [(49 : Int32)] 0 1 zc ci dA kA h105 n0 (Nat.le_trans Z0 (Nat.le_trans (Nat.le_trans (Nat.le_trans (Nat.le_trans (Nat.le_trans (Nat.le_trans (Nat.le_trans (Nat.le_trans (Nat.le_trans (Nat.le_trans (Nat.le_trans E76.1 E81.1) (Keep.of_wr W83).1) (Keep.of_wr W85).1) (Keep.of_wr W87).1) (Keep.of_wr W89).1) (Keep.of_wr W91).1) (Keep.of_wr W93).1) (Keep.of_wr W95).1) (Keep.of_wr W102).1) E103.1) E105.1)) f112 f109 (by decide) (by decide) (by decide) (by decide) (fun i q => absurd q (Nat.not_lt_zero _)) (by unfold WS; decide +kernel) (fun i q1 q2 => absurd q2 (Nat.not_lt_of_le q1)) (by unfold WS; decide +kernel) rfl (Or.inr (Or.inl rfl)) CS hz SI EI SA FA) all0 rfl (lenOf pd35 rfl) rfl (by rw [hml]; rfl) rfl (by show 2 * 0 + _ ≤ _; exact Nat.le_of_eq rfl) (by decide) (by decide) (by decide) (by decide) (hb hby at_287) ?_
      intro v110 T110 h110 L110 X110 e110 q110 hS hZ hown cr110
      obtain ⟨rx, hv110, hcase, Nf110, E110⟩ := q110
      subst hv110
      have N110 := Fr.app N105 Nf110
      have hrx : rx = (1 : Int32) := by
        rcases hcase with z | z
        · exact z.1
        · exact absurd z.2 (by decide)
      have ca114 := cr113.trans cr110
      show Go p.tables e below _ T110 (mkF m 290 #[.val (.int x0), .val (.int x1), .val (.long x2), .second, .val (.int x3), .val (.int x4), .val (.int (1 : Int32)), .val (.ref l76), .val (.int (1 : Int32)), .val (.int (1 : Int32)), .val (.ref b81), .val (.int (Int32.ofNat pn)), .val (.ref l76), .val (.ref a103), .val (.ref a105)] [(.int rx)])
      refine Go.st (T' := T110) (g' := (mkF m 292 #[.val (.int x0), .val (.int x1), .val (.long x2), .second, .val (.int x3), .val (.int x4), .val (.int (1 : Int32)), .val (.ref l76), .val (.int (1 : Int32)), .val (.int (1 : Int32)), .val (.ref b81), .val (.int (Int32.ofNat pn)), .val (.ref l76), .val (.ref a103), .val (.ref a105)] [(.int (1 : Int32)), (.int rx)])) (fun _ zk => XS.iload X110.here hx rfl (hb hby at_290) rfl zk) ?_
      refine Go.st (T' := T110) (g' := (mkF m 295 #[.val (.int x0), .val (.int x1), .val (.long x2), .second, .val (.int x3), .val (.int x4), .val (.int (1 : Int32)), .val (.ref l76), .val (.int (1 : Int32)), .val (.int (1 : Int32)), .val (.ref b81), .val (.int (Int32.ofNat pn)), .val (.ref l76), .val (.ref a103), .val (.ref a105)] [])) (fun _ zk => XS.icmpNo X110.here hx rfl (hb hby at_292) rfl (teq (hrx : rx = (1 : Int32))).2 zk) ?_
      refine Go.st (T' := T110) (g' := (mkF m 296 #[.val (.int x0), .val (.int x1), .val (.long x2), .second, .val (.int x3), .val (.int x4), .val (.int (1 : Int32)), .val (.ref l76), .val (.int (1 : Int32)), .val (.int (1 : Int32)), .val (.ref b81), .val (.int (Int32.ofNat pn)), .val (.ref l76), .val (.ref a103), .val (.ref a105)] [(.int (1 : Int32))])) (fun _ zk => XS.iconst X110.here hx rfl (hb hby at_295) zk) ?_
      refine Go.st (T' := T110) (g' := (mkF m 300 #[.val (.int x0), .val (.int x1), .val (.long x2), .second, .val (.int x3), .val (.int x4), .val (.int (1 : Int32)), .val (.ref l76), .val (.int (1 : Int32)), .val (.int (1 : Int32)), .val (.ref b81), .val (.int (Int32.ofNat pn)), .val (.ref l76), .val (.ref a103), .val (.ref a105)] [(.int (1 : Int32))])) (fun _ zk => XS.goto X110.here hx rfl (pc0 := 296) (pc' := 300) rfl (hb hby at_296) (by decide) (by decide) zk) ?_
      refine Go.retNS X110 hx hlk hS (Nat.le_refl _) ca114 hZ hEL hret rfl (by simp) (hb hby at_300) (by decide) (by decide) e110 ?_
      exact ⟨rfl, N110⟩
    · refine Go.st (T' := T102) (g' := (mkF m 238 #[.val (.int x0), .val (.int x1), .val (.long x2), .second, .val (.int x3), .val (.int x4), .val (.int (1 : Int32)), .val (.ref l76), .val (.int (1 : Int32)), .val (.int (1 : Int32)), .val (.ref b81), .val (.int (Int32.ofNat pn)), .unset, .unset, .unset] [])) (fun _ zk => XS.ifNo X102.here hx rfl (hb hby at_235) rfl ((if0 _ _).trans (feq hc235).1) zk) ?_
      obtain ⟨T115, h115, X115, e115, E115, A115, D115, -, st115⟩ := newO X102 hx hZ hown (w108 hw) (w2 hw) (w1 hw) e102 (g := (mkF m 238 #[.val (.int x0), .val (.int x1), .val (.long x2), .second, .val (.int x3), .val (.int x4), .val (.int (1 : Int32)), .val (.ref l76), .val (.int (1 : Int32)), .val (.int (1 : Int32)), .val (.ref b81), .val (.int (Int32.ofNat pn)), .unset, .unset, .unset] [])) rfl (hb hby at_238) (by decide) (by decide)
      obtain ⟨b115, g115⟩ : ∃ z, z = h102.size := ⟨_, rfl⟩
      rw [← g115] at A115 D115 st115
      have F115_value : Fld Z h115 b115 "java/lang/String" "value" "[B" .null := D115 (Or.inr (w4 hw)) (ty := (.array .byte)) (by decide)
      have F115_coder : Fld Z h115 b115 "java/lang/String" "coder" "B" (.int (0 : Int32)) := D115 (Or.inr (w5 hw)) (ty := .byte) (by decide)
      refine Go.st (T' := T115) (g' := (mkF m 241 #[.val (.int x0), .val (.int x1), .val (.long x2), .second, .val (.int x3), .val (.int x4), .val (.int (1 : Int32)), .val (.ref l76), .val (.int (1 : Int32)), .val (.int (1 : Int32)), .val (.ref b81), .val (.int (Int32.ofNat pn)), .unset, .unset, .unset] [(.ref b115)])) (fun _ zk => st115 _ zk) ?_
      refine Go.st (T' := T115) (g' := (mkF m 242 #[.val (.int x0), .val (.int x1), .val (.long x2), .second, .val (.int x3), .val (.int x4), .val (.int (1 : Int32)), .val (.ref l76), .val (.int (1 : Int32)), .val (.int (1 : Int32)), .val (.ref b81), .val (.int (Int32.ofNat pn)), .unset, .unset, .unset] [(.ref b115), (.ref b115)])) (fun _ zk => XS.dup X115.here hx rfl (hb hby at_241) rfl rfl zk) ?_
      refine Go.st (T' := T115) (g' := (mkF m 244 #[.val (.int x0), .val (.int x1), .val (.long x2), .second, .val (.int x3), .val (.int x4), .val (.int (1 : Int32)), .val (.ref l76), .val (.int (1 : Int32)), .val (.int (1 : Int32)), .val (.ref b81), .val (.int (Int32.ofNat pn)), .unset, .unset, .unset] [(.ref b81), (.ref b115), (.ref b115)])) (fun _ zk => XS.aload X115.here hx rfl (hb hby at_242) rfl rfl zk) ?_
      have xt116 : Ext h102 h115 := E115
      have f117 := V102.ext xt116
      have f119 := ((f100.wr W102 (Nat.le_trans Z0 (Nat.le_trans E76.1 (Nat.le_of_eq g81.symm)))).ext E115)
      refine Go.callSp (y := (⟨"java/lang/String", "<init>", "([C)V"⟩ : MethodName)) (a := b115) X115 hx hZ hown e115 rfl (w109 hw) (w110 hw) (w1 hw) (w111 hw) (by decide) (argsL := [(.ref b81)]) (rest := [(.ref b115)]) (W := 1) (rm_init1L l Z a0 hw [] b115 b81 k81 (putAt [sp0, sp1, sp2, sp3, sp4, sp5, sp6] pn [(49 : Int32)]) 7 zc h115 n0 (Nat.le_trans Z0 (Nat.le_trans (Nat.le_trans (Nat.le_trans (Nat.le_trans (Nat.le_trans (Nat.le_trans (Nat.le_trans (Nat.le_trans (Nat.le_trans (Nat.le_trans E76.1 E81.1) (Keep.of_wr W83).1) (Keep.of_wr W85).1) (Keep.of_wr W87).1) (Keep.of_wr W89).1) (Keep.of_wr W91).1) (Keep.of_wr W93).1) (Keep.of_wr W95).1) (Keep.of_wr W102).1) E115.1)) f119 A115 (Nat.le_trans Z0 (Nat.le_trans (Nat.le_trans (Nat.le_trans (Nat.le_trans (Nat.le_trans (Nat.le_trans (Nat.le_trans (Nat.le_trans (Nat.le_trans (Nat.le_trans E76.1 E81.1) (Keep.of_wr W83).1) (Keep.of_wr W85).1) (Keep.of_wr W87).1) (Keep.of_wr W89).1) (Keep.of_wr W91).1) (Keep.of_wr W93).1) (Keep.of_wr W95).1) (Keep.of_wr W102).1) (Nat.le_of_eq g115.symm))) F115_coder F115_value f117 (by decide) (putAt_len _ _ _) (by decide) (by decide) (own_bufle rfl hwl own_tok1 (by show pn + 1 ≤ 7; omega)) CS hz) rfl (lenOf pd36 rfl) rfl (by rw [hml]; rfl) rfl (by show 2 * 0 + _ ≤ _; exact Nat.le_of_eq rfl) (by decide) (by decide) (by decide) (by decide) (hb hby at_244) ?_
      intro v118 T118 h118 L118 X118 e118 q118
      obtain ⟨hv118, Nf118, K118, xs, hx1, hx2, SN⟩ := q118
      subst hv118
      have N118 := Fr.app N102 Nf118
      show Go p.tables e below _ T118 (mkF m 247 #[.val (.int x0), .val (.int x1), .val (.long x2), .second, .val (.int x3), .val (.int x4), .val (.int (1 : Int32)), .val (.ref l76), .val (.int (1 : Int32)), .val (.int (1 : Int32)), .val (.ref b81), .val (.int (Int32.ofNat pn)), .unset, .unset, .unset] [(.ref b115)])
      have hbuf := own_buf (p := pn) rfl hwl own_tok1 (by decide) (by show pn + 1 ≤ 7; omega) hx1 hx2
      refine Go.st (T' := T118) (g' := (mkF m 252 #[.val (.int x0), .val (.int x1), .val (.long x2), .second, .val (.int x3), .val (.int x4), .val (.int (1 : Int32)), .val (.ref l76), .val (.int (1 : Int32)), .val (.int (1 : Int32)), .val (.ref b81), .val (.int (Int32.ofNat pn)), .unset, .unset, .unset] [(.ref b115)])) (fun _ zk => XS.goto X118.here hx rfl (pc0 := 247) (pc' := 252) rfl (hb hby at_247) (by decide) (by decide) zk) ?_
      refine Go.st (T' := T118) (g' := (mkF m 254 #[.val (.int x0), .val (.int x1), .val (.long x2), .second, .val (.int x3), .val (.int x4), .val (.int (1 : Int32)), .val (.ref l76), .val (.int (1 : Int32)), .val (.int (1 : Int32)), .val (.ref b81), .val (.int (Int32.ofNat pn)), .val (.ref b115), .unset, .unset] [])) (fun _ zk => XS.astore X118.here hx rfl (hb hby at_252) rfl rfl (l' := #[.val (.int x0), .val (.int x1), .val (.long x2), .second, .val (.int x3), .val (.int x4), .val (.int (1 : Int32)), .val (.ref l76), .val (.int (1 : Int32)), .val (.int (1 : Int32)), .val (.ref b81), .val (.int (Int32.ofNat pn)), .val (.ref b115), .unset, .unset]) rfl zk) ?_
      refine Go.st (T' := T118) (g' := (mkF m 256 #[.val (.int x0), .val (.int x1), .val (.long x2), .second, .val (.int x3), .val (.int x4), .val (.int (1 : Int32)), .val (.ref l76), .val (.int (1 : Int32)), .val (.int (1 : Int32)), .val (.ref b81), .val (.int (Int32.ofNat pn)), .val (.ref b115), .unset, .unset] [(.int x4)])) (fun _ zk => XS.iload X118.here hx rfl (hb hby at_254) rfl zk) ?_
      refine Go.st (T' := T118) (g' := (mkF m 259 #[.val (.int x0), .val (.int x1), .val (.long x2), .second, .val (.int x3), .val (.int x4), .val (.int (1 : Int32)), .val (.ref l76), .val (.int (1 : Int32)), .val (.int (1 : Int32)), .val (.ref b81), .val (.int (Int32.ofNat pn)), .val (.ref b115), .unset, .unset] [(.int (255 : Int32)), (.int x4)])) (fun _ zk => XS.sipush X118.here hx rfl (hb hby at_256) zk) ?_
      refine Go.st (T' := T118) (g' := (mkF m 260 #[.val (.int x0), .val (.int x1), .val (.long x2), .second, .val (.int x3), .val (.int x4), .val (.int (1 : Int32)), .val (.ref l76), .val (.int (1 : Int32)), .val (.int (1 : Int32)), .val (.ref b81), .val (.int (Int32.ofNat pn)), .val (.ref b115), .unset, .unset] [(.int (x4 &&& (255 : Int32)))])) (fun _ zk => XS.iand X118.here hx rfl (hb hby at_259) rfl zk) ?_
      refine Go.st (T' := T118) (g' := (mkF m 261 #[.val (.int x0), .val (.int x1), .val (.long x2), .second, .val (.int x3), .val (.int x4), .val (.int (1 : Int32)), .val (.ref l76), .val (.int (1 : Int32)), .val (.int (1 : Int32)), .val (.ref b81), .val (.int (Int32.ofNat pn)), .val (.ref b115), .unset, .unset] [(.int ((x4 &&& (255 : Int32)).toUInt32.toUInt16.toUInt32.toInt32))])) (fun _ zk => XS.i2c X118.here hx rfl (hb hby at_260) rfl zk) ?_
      have f121 := (f119.keep K118 (allS (Nat.le_trans Z0 (Nat.le_trans (Nat.le_trans (Nat.le_trans (Nat.le_trans (Nat.le_trans (Nat.le_trans (Nat.le_trans (Nat.le_trans (Nat.le_trans (Nat.le_trans E76.1 E81.1) (Keep.of_wr W83).1) (Keep.of_wr W85).1) (Keep.of_wr W87).1) (Keep.of_wr W89).1) (Keep.of_wr W91).1) (Keep.of_wr W93).1) (Keep.of_wr W95).1) (Keep.of_wr W102).1) (Nat.le_of_eq g115.symm))) all0))
      refine Go.callSt (y := (⟨"java/lang/String", "valueOf", "(C)Ljava/lang/String;"⟩ : MethodName)) X118 hx hZ hown e118 (w50 hw) (w51 hw) (w1 hw) (w52 hw) (by decide) (argsL := [(.int ((x4 &&& (255 : Int32)).toUInt32.toUInt16.toUInt32.toInt32))]) (rest := []) (W := 0) (rm_valueOfC l Z a0 hw [] ((x4 &&& (255 : Int32)).toUInt32.toUInt16.toUInt32.toInt32) zc h118 n0 (Nat.le_trans Z0 (Nat.le_trans (Nat.le_trans (Nat.le_trans (Nat.le_trans (Nat.le_trans (Nat.le_trans (Nat.le_trans (Nat.le_trans (Nat.le_trans (Nat.le_trans (Nat.le_trans E76.1 E81.1) (Keep.of_wr W83).1) (Keep.of_wr W85).1) (Keep.of_wr W87).1) (Keep.of_wr W89).1) (Keep.of_wr W91).1) (Keep.of_wr W93).1) (Keep.of_wr W95).1) (Keep.of_wr W102).1) E115.1) K118.1)) f121 (le255 (and255 x4)) CS hz) rfl (lenOf pd34 rfl) rfl (by rw [hml]; rfl) rfl (by show 2 * 0 + _ ≤ _; exact Nat.le_of_eq rfl) (by decide) (by decide) (by decide) (by decide) (hb hby at_261) ?_
      intro v120 T120 h120 L120 X120 e120 q120
      obtain ⟨a120, hv120, Nf120, E120, ge120, S120⟩ := q120
      subst hv120
      have N120 := Fr.app N118 Nf120
      show Go p.tables e below _ T120 (mkF m 264 #[.val (.int x0), .val (.int x1), .val (.long x2), .second, .val (.int x3), .val (.int x4), .val (.int (1 : Int32)), .val (.ref l76), .val (.int (1 : Int32)), .val (.int (1 : Int32)), .val (.ref b81), .val (.int (Int32.ofNat pn)), .val (.ref b115), .unset, .unset] [(.ref a120)])
      refine Go.st (T' := T120) (g' := (mkF m 266 #[.val (.int x0), .val (.int x1), .val (.long x2), .second, .val (.int x3), .val (.int x4), .val (.int (1 : Int32)), .val (.ref l76), .val (.int (1 : Int32)), .val (.int (1 : Int32)), .val (.ref b81), .val (.int (Int32.ofNat pn)), .val (.ref b115), .val (.ref a120), .unset] [])) (fun _ zk => XS.astore X120.here hx rfl (hb hby at_264) rfl rfl (l' := #[.val (.int x0), .val (.int x1), .val (.long x2), .second, .val (.int x3), .val (.int x4), .val (.int (1 : Int32)), .val (.ref l76), .val (.int (1 : Int32)), .val (.int (1 : Int32)), .val (.ref b81), .val (.int (Int32.ofNat pn)), .val (.ref b115), .val (.ref a120), .unset]) rfl zk) ?_
      refine Go.st (T' := T120) (g' := (mkF m 268 #[.val (.int x0), .val (.int x1), .val (.long x2), .second, .val (.int x3), .val (.int x4), .val (.int (1 : Int32)), .val (.ref l76), .val (.int (1 : Int32)), .val (.int (1 : Int32)), .val (.ref b81), .val (.int (Int32.ofNat pn)), .val (.ref b115), .val (.ref a120), .unset] [(.int x4)])) (fun _ zk => XS.iload X120.here hx rfl (hb hby at_266) rfl zk) ?_
      refine Go.st (T' := T120) (g' := (mkF m 270 #[.val (.int x0), .val (.int x1), .val (.long x2), .second, .val (.int x3), .val (.int x4), .val (.int (1 : Int32)), .val (.ref l76), .val (.int (1 : Int32)), .val (.int (1 : Int32)), .val (.ref b81), .val (.int (Int32.ofNat pn)), .val (.ref b115), .val (.ref a120), .unset] [(.int (8 : Int32)), (.int x4)])) (fun _ zk => XS.bipush X120.here hx rfl (hb hby at_268) zk) ?_
      refine Go.st (T' := T120) (g' := (mkF m 271 #[.val (.int x0), .val (.int x1), .val (.long x2), .second, .val (.int x3), .val (.int x4), .val (.int (1 : Int32)), .val (.ref l76), .val (.int (1 : Int32)), .val (.int (1 : Int32)), .val (.ref b81), .val (.int (Int32.ofNat pn)), .val (.ref b115), .val (.ref a120), .unset] [(.int ((x4.toUInt32 >>> ((8 : Int32) &&& 31).toUInt32).toInt32))])) (fun _ zk => XS.iushr X120.here hx rfl (hb hby at_270) rfl zk) ?_
      refine Go.st (T' := T120) (g' := (mkF m 274 #[.val (.int x0), .val (.int x1), .val (.long x2), .second, .val (.int x3), .val (.int x4), .val (.int (1 : Int32)), .val (.ref l76), .val (.int (1 : Int32)), .val (.int (1 : Int32)), .val (.ref b81), .val (.int (Int32.ofNat pn)), .val (.ref b115), .val (.ref a120), .unset] [(.int (255 : Int32)), (.int ((x4.toUInt32 >>> ((8 : Int32) &&& 31).toUInt32).toInt32))])) (fun _ zk => XS.sipush X120.here hx rfl (hb hby at_271) zk) ?_
      refine Go.st (T' := T120) (g' := (mkF m 275 #[.val (.int x0), .val (.int x1), .val (.long x2), .second, .val (.int x3), .val (.int x4), .val (.int (1 : Int32)), .val (.ref l76), .val (.int (1 : Int32)), .val (.int (1 : Int32)), .val (.ref b81), .val (.int (Int32.ofNat pn)), .val (.ref b115), .val (.ref a120), .unset] [(.int (((x4.toUInt32 >>> ((8 : Int32) &&& 31).toUInt32).toInt32) &&& (255 : Int32)))])) (fun _ zk => XS.iand X120.here hx rfl (hb hby at_274) rfl zk) ?_
      refine Go.st (T' := T120) (g' := (mkF m 276 #[.val (.int x0), .val (.int x1), .val (.long x2), .second, .val (.int x3), .val (.int x4), .val (.int (1 : Int32)), .val (.ref l76), .val (.int (1 : Int32)), .val (.int (1 : Int32)), .val (.ref b81), .val (.int (Int32.ofNat pn)), .val (.ref b115), .val (.ref a120), .unset] [(.int ((((x4.toUInt32 >>> ((8 : Int32) &&& 31).toUInt32).toInt32) &&& (255 : Int32)).toUInt32.toUInt16.toUInt32.toInt32))])) (fun _ zk => XS.i2c X120.here hx rfl (hb hby at_275) rfl zk) ?_
      have xt123 : Ext h118 h120 := E120
      have f124 := f121.ext xt123
      refine Go.callSt (y := (⟨"java/lang/String", "valueOf", "(C)Ljava/lang/String;"⟩ : MethodName)) X120 hx hZ hown e120 (w50 hw) (w51 hw) (w1 hw) (w52 hw) (by decide) (argsL := [(.int ((((x4.toUInt32 >>> ((8 : Int32) &&& 31).toUInt32).toInt32) &&& (255 : Int32)).toUInt32.toUInt16.toUInt32.toInt32))]) (rest := []) (W := 0) (rm_valueOfC l Z a0 hw [] ((((x4.toUInt32 >>> ((8 : Int32) &&& 31).toUInt32).toInt32) &&& (255 : Int32)).toUInt32.toUInt16.toUInt32.toInt32) zc h120 n0 (Nat.le_trans Z0 (Nat.le_trans (Nat.le_trans (Nat.le_trans (Nat.le_trans (Nat.le_trans (Nat.le_trans (Nat.le_trans (Nat.le_trans (Nat.le_trans (Nat.le_trans (Nat.le_trans (Nat.le_trans E76.1 E81.1) (Keep.of_wr W83).1) (Keep.of_wr W85).1) (Keep.of_wr W87).1) (Keep.of_wr W89).1) (Keep.of_wr W91).1) (Keep.of_wr W93).1) (Keep.of_wr W95).1) (Keep.of_wr W102).1) E115.1) K118.1) E120.1)) f124 (le255 (and255 ((x4.toUInt32 >>> ((8 : Int32) &&& 31).toUInt32).toInt32))) CS hz) rfl (lenOf pd34 rfl) rfl (by rw [hml]; rfl) rfl (by show 2 * 0 + _ ≤ _; exact Nat.le_of_eq rfl) (by decide) (by decide) (by decide) (by decide) (hb hby at_276) ?_
      intro v122 T122 h122 L122 X122 e122 q122
      obtain ⟨a122, hv122, Nf122, E122, ge122, S122⟩ := q122
      subst hv122
      have N122 := Fr.app N120 Nf122
      show Go p.tables e below _ T122 (mkF m 279 #[.val (.int x0), .val (.int x1), .val (.long x2), .second, .val (.int x3), .val (.int x4), .val (.int (1 : Int32)), .val (.ref l76), .val (.int (1 : Int32)), .val (.int (1 : Int32)), .val (.ref b81), .val (.int (Int32.ofNat pn)), .val (.ref b115), .val (.ref a120), .unset] [(.ref a122)])
      refine Go.st (T' := T122) (g' := (mkF m 281 #[.val (.int x0), .val (.int x1), .val (.long x2), .second, .val (.int x3), .val (.int x4), .val (.int (1 : Int32)), .val (.ref l76), .val (.int (1 : Int32)), .val (.int (1 : Int32)), .val (.ref b81), .val (.int (Int32.ofNat pn)), .val (.ref b115), .val (.ref a120), .val (.ref a122)] [])) (fun _ zk => XS.astore X122.here hx rfl (hb hby at_279) rfl rfl (l' := #[.val (.int x0), .val (.int x1), .val (.long x2), .second, .val (.int x3), .val (.int x4), .val (.int (1 : Int32)), .val (.ref l76), .val (.int (1 : Int32)), .val (.int (1 : Int32)), .val (.ref b81), .val (.int (Int32.ofNat pn)), .val (.ref b115), .val (.ref a120), .val (.ref a122)]) rfl zk) ?_
      refine Go.st (T' := T122) (g' := (mkF m 283 #[.val (.int x0), .val (.int x1), .val (.long x2), .second, .val (.int x3), .val (.int x4), .val (.int (1 : Int32)), .val (.ref l76), .val (.int (1 : Int32)), .val (.int (1 : Int32)), .val (.ref b81), .val (.int (Int32.ofNat pn)), .val (.ref b115), .val (.ref a120), .val (.ref a122)] [(.ref a120)])) (fun _ zk => XS.aload X122.here hx rfl (hb hby at_281) rfl rfl zk) ?_
      refine Go.st (T' := T122) (g' := (mkF m 285 #[.val (.int x0), .val (.int x1), .val (.long x2), .second, .val (.int x3), .val (.int x4), .val (.int (1 : Int32)), .val (.ref l76), .val (.int (1 : Int32)), .val (.int (1 : Int32)), .val (.ref b81), .val (.int (Int32.ofNat pn)), .val (.ref b115), .val (.ref a120), .val (.ref a122)] [(.ref a122), (.ref a120)])) (fun _ zk => XS.aload X122.here hx rfl (hb hby at_283) rfl rfl zk) ?_
      refine Go.st (T' := T122) (g' := (mkF m 287 #[.val (.int x0), .val (.int x1), .val (.long x2), .second, .val (.int x3), .val (.int x4), .val (.int (1 : Int32)), .val (.ref l76), .val (.int (1 : Int32)), .val (.int (1 : Int32)), .val (.ref b81), .val (.int (Int32.ofNat pn)), .val (.ref b115), .val (.ref a120), .val (.ref a122)] [(.ref b115), (.ref a122), (.ref a120)])) (fun _ zk => XS.aload X122.here hx rfl (hb hby at_285) rfl rfl zk) ?_
      have xt125 : Ext h118 h122 := (xt123.tr E122)
      have f126 := SN.ext xt125
      have xt128 : Ext h120 h122 := E122
      have f129 := f124.ext xt128
      have xt130 : Ext h76 h122 := (((((xt97.thenW W102 (Nat.le_of_eq g81.symm)).tr E115).thenK K118 (allS (P := fun x => h76.size ≤ x) (Nat.le_trans (Nat.le_trans (Nat.le_trans (Nat.le_trans (Nat.le_trans (Nat.le_trans (Nat.le_trans (Nat.le_trans (Nat.le_trans E81.1 (Keep.of_wr W83).1) (Keep.of_wr W85).1) (Keep.of_wr W87).1) (Keep.of_wr W89).1) (Keep.of_wr W91).1) (Keep.of_wr W93).1) (Keep.of_wr W95).1) (Keep.of_wr W102).1) (Nat.le_of_eq g115.symm)) all0)).tr E120).tr E122)
      have cr131 := chrE ca77 xt130
      refine Go.callStS (y := (⟨"com/example/tokenweave/tokenweave/engine/BpmnReader", "xmlBoolean", "(Ljava/lang/String;Ljava/lang/String;Ljava/lang/String;)Z"⟩ : MethodName)) X122 hx hZ hown e122 hEL cr131.1 hS (Nat.le_trans hk76 (Nat.le_trans (Nat.le_trans (Nat.le_trans (Nat.le_trans (Nat.le_trans (Nat.le_trans (Nat.le_trans (Nat.le_trans (Nat.le_trans (Nat.le_trans (Nat.le_trans (Nat.le_trans E81.1 (Keep.of_wr W83).1) (Keep.of_wr W85).1) (Keep.of_wr W87).1) (Keep.of_wr W89).1) (Keep.of_wr W91).1) (Keep.of_wr W93).1) (Keep.of_wr W95).1) (Keep.of_wr W102).1) E115.1) K118.1) E120.1) E122.1)) (w67 hw) (w68 hw) (w69 hw) (w70 hw) (by decide) (argsL := [(.ref a120), (.ref a122), (.ref b115)]) (rest := []) (W := 0) (rm_xmlBool l Z a0 hw [] a120 a122 b115 xs [(49 : Int32)] pn (pn + 1) zc ci dA kA h122 n0 (Nat.le_trans Z0 (Nat.le_trans (Nat.le_trans (Nat.le_trans (Nat.le_trans (Nat.le_trans (Nat.le_trans (Nat.le_trans (Nat.le_trans (Nat.le_trans (Nat.le_trans (Nat.le_trans (Nat.le_trans (Nat.le_trans E76.1 E81.1) (Keep.of_wr W83).1) (Keep.of_wr W85).1) (Keep.of_wr W87).1) (Keep.of_wr W89).1) (Keep.of_wr W91).1) (Keep.of_wr W93).1) (Keep.of_wr W95).1) (Keep.of_wr W102).1) E115.1) K118.1) E120.1) E122.1)) f129 f126 (by omega) (by omega) (by omega) (by omega) hbuf.1 hbuf.2.1 hbuf.2.2.1 hbuf.2.2.2.1 hbuf.2.2.2.2 (Or.inr (Or.inl rfl)) CS hz SI EI SA FA) all0 rfl (lenOf pd35 rfl) rfl (by rw [hml]; rfl) rfl (by show 2 * 0 + _ ≤ _; exact Nat.le_of_eq rfl) (by decide) (by decide) (by decide) (by decide) (hb hby at_287) ?_
      intro v127 T127 h127 L127 X127 e127 q127 hS hZ hown cr127
      obtain ⟨rx, hv127, hcase, Nf127, E127⟩ := q127
      subst hv127
      have N127 := Fr.app N122 Nf127
      have hrx : rx = (1 : Int32) := by
        rcases hcase with z | z
        · exact z.1
        · exact absurd z.2 (by decide)
      have ca132 := cr131.trans cr127
      show Go p.tables e below _ T127 (mkF m 290 #[.val (.int x0), .val (.int x1), .val (.long x2), .second, .val (.int x3), .val (.int x4), .val (.int (1 : Int32)), .val (.ref l76), .val (.int (1 : Int32)), .val (.int (1 : Int32)), .val (.ref b81), .val (.int (Int32.ofNat pn)), .val (.ref b115), .val (.ref a120), .val (.ref a122)] [(.int rx)])
      refine Go.st (T' := T127) (g' := (mkF m 292 #[.val (.int x0), .val (.int x1), .val (.long x2), .second, .val (.int x3), .val (.int x4), .val (.int (1 : Int32)), .val (.ref l76), .val (.int (1 : Int32)), .val (.int (1 : Int32)), .val (.ref b81), .val (.int (Int32.ofNat pn)), .val (.ref b115), .val (.ref a120), .val (.ref a122)] [(.int (1 : Int32)), (.int rx)])) (fun _ zk => XS.iload X127.here hx rfl (hb hby at_290) rfl zk) ?_
      refine Go.st (T' := T127) (g' := (mkF m 295 #[.val (.int x0), .val (.int x1), .val (.long x2), .second, .val (.int x3), .val (.int x4), .val (.int (1 : Int32)), .val (.ref l76), .val (.int (1 : Int32)), .val (.int (1 : Int32)), .val (.ref b81), .val (.int (Int32.ofNat pn)), .val (.ref b115), .val (.ref a120), .val (.ref a122)] [])) (fun _ zk => XS.icmpNo X127.here hx rfl (hb hby at_292) rfl (teq (hrx : rx = (1 : Int32))).2 zk) ?_
      refine Go.st (T' := T127) (g' := (mkF m 296 #[.val (.int x0), .val (.int x1), .val (.long x2), .second, .val (.int x3), .val (.int x4), .val (.int (1 : Int32)), .val (.ref l76), .val (.int (1 : Int32)), .val (.int (1 : Int32)), .val (.ref b81), .val (.int (Int32.ofNat pn)), .val (.ref b115), .val (.ref a120), .val (.ref a122)] [(.int (1 : Int32))])) (fun _ zk => XS.iconst X127.here hx rfl (hb hby at_295) zk) ?_
      refine Go.st (T' := T127) (g' := (mkF m 300 #[.val (.int x0), .val (.int x1), .val (.long x2), .second, .val (.int x3), .val (.int x4), .val (.int (1 : Int32)), .val (.ref l76), .val (.int (1 : Int32)), .val (.int (1 : Int32)), .val (.ref b81), .val (.int (Int32.ofNat pn)), .val (.ref b115), .val (.ref a120), .val (.ref a122)] [(.int (1 : Int32))])) (fun _ zk => XS.goto X127.here hx rfl (pc0 := 296) (pc' := 300) rfl (hb hby at_296) (by decide) (by decide) zk) ?_
      refine Go.retNS X127 hx hlk hS (Nat.le_refl _) ca132 hZ hEL hret rfl (by simp) (hb hby at_300) (by decide) (by decide) e127 ?_
      exact ⟨rfl, N127⟩
  · refine Go.st (T' := s₁) (g' := (mkF m 7 #[.val (.int x0), .val (.int x1), .val (.long x2), .second, .val (.int x3), .val (.int x4), .val (.int (2 : Int32)), .unset, .unset, .unset, .unset, .unset, .unset, .unset, .unset] [(.int (2 : Int32))])) (fun _ zk => XS.iload X0.here hx rfl (hb hby at_5) rfl zk) ?_
    refine Go.st (T' := s₁) (g' := (mkF m 15 #[.val (.int x0), .val (.int x1), .val (.long x2), .second, .val (.int x3), .val (.int x4), .val (.int (2 : Int32)), .unset, .unset, .unset, .unset, .unset, .unset, .unset, .unset] [])) (fun _ zk => XS.ifYes X0.here hx rfl (pc0 := 7) (pc' := 15) rfl (hb hby at_7) rfl ((if0 _ _).trans (feq ((by decide) : ¬ ((2 : Int32) = (0 : Int32)))).2) (by decide) (by decide) zk) ?_
    refine Go.st (T' := s₁) (g' := (mkF m 17 #[.val (.int x0), .val (.int x1), .val (.long x2), .second, .val (.int x3), .val (.int x4), .val (.int (2 : Int32)), .unset, .unset, .unset, .unset, .unset, .unset, .unset, .unset] [(.int (2 : Int32))])) (fun _ zk => XS.iload X0.here hx rfl (hb hby at_15) rfl zk) ?_
    refine Go.st (T' := s₁) (g' := (mkF m 18 #[.val (.int x0), .val (.int x1), .val (.long x2), .second, .val (.int x3), .val (.int x4), .val (.int (2 : Int32)), .unset, .unset, .unset, .unset, .unset, .unset, .unset, .unset] [(.int (1 : Int32)), (.int (2 : Int32))])) (fun _ zk => XS.iconst X0.here hx rfl (hb hby at_17) zk) ?_
    refine Go.st (T' := s₁) (g' := (mkF m 26 #[.val (.int x0), .val (.int x1), .val (.long x2), .second, .val (.int x3), .val (.int x4), .val (.int (2 : Int32)), .unset, .unset, .unset, .unset, .unset, .unset, .unset, .unset] [])) (fun _ zk => XS.icmpYes X0.here hx rfl (pc0 := 18) (pc' := 26) rfl (hb hby at_18) rfl (feq ((by decide) : ¬ ((2 : Int32) = (1 : Int32)))).2 (by decide) (by decide) zk) ?_
    refine Go.st (T' := s₁) (g' := (mkF m 28 #[.val (.int x0), .val (.int x1), .val (.long x2), .second, .val (.int x3), .val (.int x4), .val (.int (2 : Int32)), .unset, .unset, .unset, .unset, .unset, .unset, .unset, .unset] [(.int (2 : Int32))])) (fun _ zk => XS.iload X0.here hx rfl (hb hby at_26) rfl zk) ?_
    refine Go.st (T' := s₁) (g' := (mkF m 29 #[.val (.int x0), .val (.int x1), .val (.long x2), .second, .val (.int x3), .val (.int x4), .val (.int (2 : Int32)), .unset, .unset, .unset, .unset, .unset, .unset, .unset, .unset] [(.int (2 : Int32)), (.int (2 : Int32))])) (fun _ zk => XS.iconst X0.here hx rfl (hb hby at_28) zk) ?_
    refine Go.st (T' := s₁) (g' := (mkF m 32 #[.val (.int x0), .val (.int x1), .val (.long x2), .second, .val (.int x3), .val (.int x4), .val (.int (2 : Int32)), .unset, .unset, .unset, .unset, .unset, .unset, .unset, .unset] [])) (fun _ zk => XS.icmpNo X0.here hx rfl (hb hby at_29) rfl (teq (rfl : (2 : Int32) = (2 : Int32))).2 zk) ?_
    obtain ⟨l133, T133, h133, kk133, lt133, kl133, X133, e133, E133, hS, hk133, hZ', hown, A133, C133, F133, V133, la133, lb133, cr133, -, sf133, st133⟩ := ldcCH X0 hx hZ hown (w155 hw) hSt e0 hS (Nat.zero_le _) hEL (by decide) hA.1 (vs := [(.int (102 : Int32)), (.int (97 : Int32)), (.int (108 : Int32)), (.int (115 : Int32)), (.int (101 : Int32))]) (z := (5 : Int32)) ⟨by decide, by decide⟩ (by decide) (by decide) (g := (mkF m 32 #[.val (.int x0), .val (.int x1), .val (.long x2), .second, .val (.int x3), .val (.int x4), .val (.int (2 : Int32)), .unset, .unset, .unset, .unset, .unset, .unset, .unset, .unset] [])) rfl (hb hby at_32) (n := 20) (by decide) (by decide) (by decide) (by decide)
    have hZ : Z.Warmed39 T133.vm := hZ'
    have ca134 := hA.trans cr133
    refine Go.st (T' := T133) (g' := (mkF m 34 #[.val (.int x0), .val (.int x1), .val (.long x2), .second, .val (.int x3), .val (.int x4), .val (.int (2 : Int32)), .unset, .unset, .unset, .unset, .unset, .unset, .unset, .unset] [(.ref l133)])) (fun _ zk => st133 _ zk) ?_
    refine Go.st (T' := T133) (g' := (mkF m 39 #[.val (.int x0), .val (.int x1), .val (.long x2), .second, .val (.int x3), .val (.int x4), .val (.int (2 : Int32)), .unset, .unset, .unset, .unset, .unset, .unset, .unset, .unset] [(.ref l133)])) (fun _ zk => XS.goto X133.here hx rfl (pc0 := 34) (pc' := 39) rfl (hb hby at_34) (by decide) (by decide) zk) ?_
    have SL : StrB Z h133 l133 0 [(102 : Int32), (97 : Int32), (108 : Int32), (115 : Int32), (101 : Int32)] := ⟨_, _, A133, C133, F133, V133⟩
    refine Go.st (T' := T133) (g' := (mkF m 41 #[.val (.int x0), .val (.int x1), .val (.long x2), .second, .val (.int x3), .val (.int x4), .val (.int (2 : Int32)), .val (.ref l133), .unset, .unset, .unset, .unset, .unset, .unset, .unset] [])) (fun _ zk => XS.astore X133.here hx rfl (hb hby at_39) rfl rfl (l' := #[.val (.int x0), .val (.int x1), .val (.long x2), .second, .val (.int x3), .val (.int x4), .val (.int (2 : Int32)), .val (.ref l133), .unset, .unset, .unset, .unset, .unset, .unset, .unset]) rfl zk) ?_
    refine Go.st (T' := T133) (g' := (mkF m 43 #[.val (.int x0), .val (.int x1), .val (.long x2), .second, .val (.int x3), .val (.int x4), .val (.int (2 : Int32)), .val (.ref l133), .unset, .unset, .unset, .unset, .unset, .unset, .unset] [(.int (2 : Int32))])) (fun _ zk => XS.iload X133.here hx rfl (hb hby at_41) rfl zk) ?_
    refine Go.st (T' := T133) (g' := (mkF m 44 #[.val (.int x0), .val (.int x1), .val (.long x2), .second, .val (.int x3), .val (.int x4), .val (.int (2 : Int32)), .val (.ref l133), .unset, .unset, .unset, .unset, .unset, .unset, .unset] [(.int (2 : Int32)), (.int (2 : Int32))])) (fun _ zk => XS.iconst X133.here hx rfl (hb hby at_43) zk) ?_
    refine Go.st (T' := T133) (g' := (mkF m 51 #[.val (.int x0), .val (.int x1), .val (.long x2), .second, .val (.int x3), .val (.int x4), .val (.int (2 : Int32)), .val (.ref l133), .unset, .unset, .unset, .unset, .unset, .unset, .unset] [])) (fun _ zk => XS.icmpYes X133.here hx rfl (pc0 := 44) (pc' := 51) rfl (hb hby at_44) rfl (flt ((by decide) : ¬ ((2 : Int32) < (2 : Int32)))).2.1 (by decide) (by decide) zk) ?_
    refine Go.st (T' := T133) (g' := (mkF m 52 #[.val (.int x0), .val (.int x1), .val (.long x2), .second, .val (.int x3), .val (.int x4), .val (.int (2 : Int32)), .val (.ref l133), .unset, .unset, .unset, .unset, .unset, .unset, .unset] [(.int (0 : Int32))])) (fun _ zk => XS.iconst X133.here hx rfl (hb hby at_51) zk) ?_
    refine Go.st (T' := T133) (g' := (mkF m 54 #[.val (.int x0), .val (.int x1), .val (.long x2), .second, .val (.int x3), .val (.int x4), .val (.int (2 : Int32)), .val (.ref l133), .val (.int (0 : Int32)), .unset, .unset, .unset, .unset, .unset, .unset] [])) (fun _ zk => XS.istore X133.here hx rfl (hb hby at_52) rfl (l' := #[.val (.int x0), .val (.int x1), .val (.long x2), .second, .val (.int x3), .val (.int x4), .val (.int (2 : Int32)), .val (.ref l133), .val (.int (0 : Int32)), .unset, .unset, .unset, .unset, .unset, .unset]) rfl zk) ?_
    refine Go.st (T' := T133) (g' := (mkF m 56 #[.val (.int x0), .val (.int x1), .val (.long x2), .second, .val (.int x3), .val (.int x4), .val (.int (2 : Int32)), .val (.ref l133), .val (.int (0 : Int32)), .unset, .unset, .unset, .unset, .unset, .unset] [(.ref l133)])) (fun _ zk => XS.aload X133.here hx rfl (hb hby at_54) rfl rfl zk) ?_
    have xt136 : Ext h0 h133 := E133
    have f137 := O0.ext xt136
    refine Go.callV (y := (⟨"java/lang/String", "length", "()I"⟩ : MethodName)) (z := (⟨"java/lang/String", "length", "()I"⟩ : MethodName)) (C := "java/lang/String") (a := l133) X133 hx hZ hown e133 (w8 hw) (w9 hw) (w11 hw) (w10 hw) (w1 hw) (w12 hw) (notFace_of_selects (args := #[]) (mvT hZ (w11 hw))) (by decide) A133 (argsL := []) (rest := []) (W := 0) (rm_lengthG l Z a0 hw [] l133 [(102 : Int32), (97 : Int32), (108 : Int32), (115 : Int32), (101 : Int32)] zc h133 n0 (Nat.le_trans Z0 E133.1) f137 SL CS hz) rfl (lenOf pd31 rfl) rfl (by rw [hml]; rfl) rfl (by show 2 * 0 + _ ≤ _; exact Nat.le_of_eq rfl) (by decide) (by decide) (by decide) (by decide) (hb hby at_56) ?_
    intro v135 T135 h135 L135 X135 e135 q135
    obtain ⟨hv135, Nf135, hh135⟩ := q135
    subst hv135
    have E135 : T135.heap = h133 := e135.trans hh135
    have N135 := Fr.app N0 Nf135
    show Go p.tables e below _ T135 (mkF m 59 #[.val (.int x0), .val (.int x1), .val (.long x2), .second, .val (.int x3), .val (.int x4), .val (.int (2 : Int32)), .val (.ref l133), .val (.int (0 : Int32)), .unset, .unset, .unset, .unset, .unset, .unset] [(.int (5 : Int32))])
    refine Go.st (T' := T135) (g' := (mkF m 61 #[.val (.int x0), .val (.int x1), .val (.long x2), .second, .val (.int x3), .val (.int x4), .val (.int (2 : Int32)), .val (.ref l133), .val (.int (0 : Int32)), .val (.int (5 : Int32)), .unset, .unset, .unset, .unset, .unset] [])) (fun _ zk => XS.istore X135.here hx rfl (hb hby at_59) rfl (l' := #[.val (.int x0), .val (.int x1), .val (.long x2), .second, .val (.int x3), .val (.int x4), .val (.int (2 : Int32)), .val (.ref l133), .val (.int (0 : Int32)), .val (.int (5 : Int32)), .unset, .unset, .unset, .unset, .unset]) rfl zk) ?_
    refine Go.st (T' := T135) (g' := (mkF m 63 #[.val (.int x0), .val (.int x1), .val (.long x2), .second, .val (.int x3), .val (.int x4), .val (.int (2 : Int32)), .val (.ref l133), .val (.int (0 : Int32)), .val (.int (5 : Int32)), .unset, .unset, .unset, .unset, .unset] [(.int (7 : Int32))])) (fun _ zk => XS.bipush X135.here hx rfl (hb hby at_61) zk) ?_
    obtain ⟨T138, h138, k138, X138, e138, E138, A138, st138⟩ := newP (aty := .char) X135 hx hZ (w21 hw) E135 (g := (mkF m 63 #[.val (.int x0), .val (.int x1), .val (.long x2), .second, .val (.int x3), .val (.int x4), .val (.int (2 : Int32)), .val (.ref l133), .val (.int (0 : Int32)), .val (.int (5 : Int32)), .unset, .unset, .unset, .unset, .unset] [(.int (7 : Int32))])) rfl (hb hby at_63) rfl (by decide) (cap := 7) (by decide) (by decide) (by decide) (by decide)
    obtain ⟨b138, g138⟩ : ∃ z, z = h133.size := ⟨_, rfl⟩
    rw [← g138] at A138 st138
    have V138 : Arv Z h138 b138 k138 .char (7 : Int32) [(.int (0 : Int32)), (.int (0 : Int32)), (.int (0 : Int32)), (.int (0 : Int32)), (.int (0 : Int32)), (.int (0 : Int32)), (.int (0 : Int32))] (.int (0 : Int32)) := (Arv.new A138 (by decide)).pad (pad_rep [] (.int (0 : Int32)) 7)
    refine Go.st (T' := T138) (g' := (mkF m 65 #[.val (.int x0), .val (.int x1), .val (.long x2), .second, .val (.int x3), .val (.int x4), .val (.int (2 : Int32)), .val (.ref l133), .val (.int (0 : Int32)), .val (.int (5 : Int32)), .unset, .unset, .unset, .unset, .unset] [(.ref b138)])) (fun _ zk => st138 _ zk) ?_
    refine Go.st (T' := T138) (g' := (mkF m 67 #[.val (.int x0), .val (.int x1), .val (.long x2), .second, .val (.int x3), .val (.int x4), .val (.int (2 : Int32)), .val (.ref l133), .val (.int (0 : Int32)), .val (.int (5 : Int32)), .val (.ref b138), .unset, .unset, .unset, .unset] [])) (fun _ zk => XS.astore X138.here hx rfl (hb hby at_65) rfl rfl (l' := #[.val (.int x0), .val (.int x1), .val (.long x2), .second, .val (.int x3), .val (.int x4), .val (.int (2 : Int32)), .val (.ref l133), .val (.int (0 : Int32)), .val (.int (5 : Int32)), .val (.ref b138), .unset, .unset, .unset, .unset]) rfl zk) ?_
    refine Go.st (T' := T138) (g' := (mkF m 69 #[.val (.int x0), .val (.int x1), .val (.long x2), .second, .val (.int x3), .val (.int x4), .val (.int (2 : Int32)), .val (.ref l133), .val (.int (0 : Int32)), .val (.int (5 : Int32)), .val (.ref b138), .unset, .unset, .unset, .unset] [(.ref b138)])) (fun _ zk => XS.aload X138.here hx rfl (hb hby at_67) rfl rfl zk) ?_
    refine Go.st (T' := T138) (g' := (mkF m 70 #[.val (.int x0), .val (.int x1), .val (.long x2), .second, .val (.int x3), .val (.int x4), .val (.int (2 : Int32)), .val (.ref l133), .val (.int (0 : Int32)), .val (.int (5 : Int32)), .val (.ref b138), .unset, .unset, .unset, .unset] [(.int (0 : Int32)), (.ref b138)])) (fun _ zk => XS.iconst X138.here hx rfl (hb hby at_69) zk) ?_
    refine Go.st (T' := T138) (g' := (mkF m 71 #[.val (.int x0), .val (.int x1), .val (.long x2), .second, .val (.int x3), .val (.int x4), .val (.int (2 : Int32)), .val (.ref l133), .val (.int (0 : Int32)), .val (.int (5 : Int32)), .val (.ref b138), .unset, .unset, .unset, .unset] [(.long x2), (.int (0 : Int32)), (.ref b138)])) (fun _ zk => XS.lloadN X138.here hx rfl (hb hby at_70) rfl zk) ?_
    refine Go.st (T' := T138) (g' := (mkF m 72 #[.val (.int x0), .val (.int x1), .val (.long x2), .second, .val (.int x3), .val (.int x4), .val (.int (2 : Int32)), .val (.ref l133), .val (.int (0 : Int32)), .val (.int (5 : Int32)), .val (.ref b138), .unset, .unset, .unset, .unset] [(.int (0 : Int32)), (.long x2), (.int (0 : Int32)), (.ref b138)])) (fun _ zk => XS.iconst X138.here hx rfl (hb hby at_71) zk) ?_
    refine Go.callSt (y := (⟨"com/example/tokenweave/tokenweave/engine/BpmnReaderXmlBooleanPinLaw", "space", "(JI)C"⟩ : MethodName)) X138 hx hZ hown e138 (w22 hw) (w23 hw) (w24 hw) (w25 hw) (by decide) (argsL := [(.long x2), (.int (0 : Int32))]) (rest := [(.int (0 : Int32)), (.ref b138)]) (W := 2) (rm_space l Z a0 hw [] x2 (0 : Int32) h138 n0 (Nat.le_trans Z0 (Nat.le_trans E133.1 E138.1)) ) rfl (lenOf pd32 rfl) rfl (by rw [hml]; rfl) rfl (by show 2 * 0 + _ ≤ _; exact Nat.le_of_eq rfl) (by decide) (by decide) (by decide) (by decide) (hb hby at_72) ?_
    intro v139 T139 h139 L139 X139 e139 q139
    obtain ⟨sp0, hv139, qw0, Nf139, hh139⟩ := q139
    subst hv139
    have E139 : T139.heap = h138 := e139.trans hh139
    have N139 := Fr.app N135 Nf139
    show Go p.tables e below _ T139 (mkF m 75 #[.val (.int x0), .val (.int x1), .val (.long x2), .second, .val (.int x3), .val (.int x4), .val (.int (2 : Int32)), .val (.ref l133), .val (.int (0 : Int32)), .val (.int (5 : Int32)), .val (.ref b138), .unset, .unset, .unset, .unset] [(.int sp0), (.int (0 : Int32)), (.ref b138)])
    obtain ⟨T140, h140, X140, e140, W140, V140, st140⟩ := stCV X139 hx hZ E139 V138 (j := (0 : Int32)) (i := 0) (by decide) rfl (Nat.le_of_ble_eq_true rfl) (g := (mkF m 75 #[.val (.int x0), .val (.int x1), .val (.long x2), .second, .val (.int x3), .val (.int x4), .val (.int (2 : Int32)), .val (.ref l133), .val (.int (0 : Int32)), .val (.int (5 : Int32)), .val (.ref b138), .unset, .unset, .unset, .unset] [(.int sp0), (.int (0 : Int32)), (.ref b138)])) rfl rfl (hb hby at_75)
    rw [nar_cid (x := sp0) (by unfold wsr at qw0; omega)] at V140
    have V140' : Arv Z h140 b138 k138 .char (7 : Int32) [(.int sp0), (.int (0 : Int32)), (.int (0 : Int32)), (.int (0 : Int32)), (.int (0 : Int32)), (.int (0 : Int32)), (.int (0 : Int32))] (.int (0 : Int32)) := V140
    have N140 := Fr.snoc X140 N139 (Nat.le_trans Z0 (Nat.le_trans E133.1 (Nat.le_of_eq g138.symm)))
    refine Go.st (T' := T140) (g' := (mkF m 76 #[.val (.int x0), .val (.int x1), .val (.long x2), .second, .val (.int x3), .val (.int x4), .val (.int (2 : Int32)), .val (.ref l133), .val (.int (0 : Int32)), .val (.int (5 : Int32)), .val (.ref b138), .unset, .unset, .unset, .unset] [])) (fun _ zk => st140 _ zk) ?_
    refine Go.st (T' := T140) (g' := (mkF m 78 #[.val (.int x0), .val (.int x1), .val (.long x2), .second, .val (.int x3), .val (.int x4), .val (.int (2 : Int32)), .val (.ref l133), .val (.int (0 : Int32)), .val (.int (5 : Int32)), .val (.ref b138), .unset, .unset, .unset, .unset] [(.ref b138)])) (fun _ zk => XS.aload X140.here hx rfl (hb hby at_76) rfl rfl zk) ?_
    refine Go.st (T' := T140) (g' := (mkF m 79 #[.val (.int x0), .val (.int x1), .val (.long x2), .second, .val (.int x3), .val (.int x4), .val (.int (2 : Int32)), .val (.ref l133), .val (.int (0 : Int32)), .val (.int (5 : Int32)), .val (.ref b138), .unset, .unset, .unset, .unset] [(.int (1 : Int32)), (.ref b138)])) (fun _ zk => XS.iconst X140.here hx rfl (hb hby at_78) zk) ?_
    refine Go.st (T' := T140) (g' := (mkF m 80 #[.val (.int x0), .val (.int x1), .val (.long x2), .second, .val (.int x3), .val (.int x4), .val (.int (2 : Int32)), .val (.ref l133), .val (.int (0 : Int32)), .val (.int (5 : Int32)), .val (.ref b138), .unset, .unset, .unset, .unset] [(.long x2), (.int (1 : Int32)), (.ref b138)])) (fun _ zk => XS.lloadN X140.here hx rfl (hb hby at_79) rfl zk) ?_
    refine Go.st (T' := T140) (g' := (mkF m 81 #[.val (.int x0), .val (.int x1), .val (.long x2), .second, .val (.int x3), .val (.int x4), .val (.int (2 : Int32)), .val (.ref l133), .val (.int (0 : Int32)), .val (.int (5 : Int32)), .val (.ref b138), .unset, .unset, .unset, .unset] [(.int (1 : Int32)), (.long x2), (.int (1 : Int32)), (.ref b138)])) (fun _ zk => XS.iconst X140.here hx rfl (hb hby at_80) zk) ?_
    refine Go.callSt (y := (⟨"com/example/tokenweave/tokenweave/engine/BpmnReaderXmlBooleanPinLaw", "space", "(JI)C"⟩ : MethodName)) X140 hx hZ hown e140 (w22 hw) (w23 hw) (w24 hw) (w25 hw) (by decide) (argsL := [(.long x2), (.int (1 : Int32))]) (rest := [(.int (1 : Int32)), (.ref b138)]) (W := 2) (rm_space l Z a0 hw [] x2 (1 : Int32) h140 n0 (Nat.le_trans Z0 (Nat.le_trans (Nat.le_trans E133.1 E138.1) (Keep.of_wr W140).1)) ) rfl (lenOf pd32 rfl) rfl (by rw [hml]; rfl) rfl (by show 2 * 0 + _ ≤ _; exact Nat.le_of_eq rfl) (by decide) (by decide) (by decide) (by decide) (hb hby at_81) ?_
    intro v141 T141 h141 L141 X141 e141 q141
    obtain ⟨sp1, hv141, qw1, Nf141, hh141⟩ := q141
    subst hv141
    have E141 : T141.heap = h140 := e141.trans hh141
    have N141 := Fr.app N140 Nf141
    show Go p.tables e below _ T141 (mkF m 84 #[.val (.int x0), .val (.int x1), .val (.long x2), .second, .val (.int x3), .val (.int x4), .val (.int (2 : Int32)), .val (.ref l133), .val (.int (0 : Int32)), .val (.int (5 : Int32)), .val (.ref b138), .unset, .unset, .unset, .unset] [(.int sp1), (.int (1 : Int32)), (.ref b138)])
    obtain ⟨T142, h142, X142, e142, W142, V142, st142⟩ := stCV X141 hx hZ E141 V140' (j := (1 : Int32)) (i := 1) (by decide) rfl (Nat.le_of_ble_eq_true rfl) (g := (mkF m 84 #[.val (.int x0), .val (.int x1), .val (.long x2), .second, .val (.int x3), .val (.int x4), .val (.int (2 : Int32)), .val (.ref l133), .val (.int (0 : Int32)), .val (.int (5 : Int32)), .val (.ref b138), .unset, .unset, .unset, .unset] [(.int sp1), (.int (1 : Int32)), (.ref b138)])) rfl rfl (hb hby at_84)
    rw [nar_cid (x := sp1) (by unfold wsr at qw1; omega)] at V142
    have V142' : Arv Z h142 b138 k138 .char (7 : Int32) [(.int sp0), (.int sp1), (.int (0 : Int32)), (.int (0 : Int32)), (.int (0 : Int32)), (.int (0 : Int32)), (.int (0 : Int32))] (.int (0 : Int32)) := V142
    have N142 := Fr.snoc X142 N141 (Nat.le_trans Z0 (Nat.le_trans E133.1 (Nat.le_of_eq g138.symm)))
    refine Go.st (T' := T142) (g' := (mkF m 85 #[.val (.int x0), .val (.int x1), .val (.long x2), .second, .val (.int x3), .val (.int x4), .val (.int (2 : Int32)), .val (.ref l133), .val (.int (0 : Int32)), .val (.int (5 : Int32)), .val (.ref b138), .unset, .unset, .unset, .unset] [])) (fun _ zk => st142 _ zk) ?_
    refine Go.st (T' := T142) (g' := (mkF m 87 #[.val (.int x0), .val (.int x1), .val (.long x2), .second, .val (.int x3), .val (.int x4), .val (.int (2 : Int32)), .val (.ref l133), .val (.int (0 : Int32)), .val (.int (5 : Int32)), .val (.ref b138), .unset, .unset, .unset, .unset] [(.ref b138)])) (fun _ zk => XS.aload X142.here hx rfl (hb hby at_85) rfl rfl zk) ?_
    refine Go.st (T' := T142) (g' := (mkF m 88 #[.val (.int x0), .val (.int x1), .val (.long x2), .second, .val (.int x3), .val (.int x4), .val (.int (2 : Int32)), .val (.ref l133), .val (.int (0 : Int32)), .val (.int (5 : Int32)), .val (.ref b138), .unset, .unset, .unset, .unset] [(.int (2 : Int32)), (.ref b138)])) (fun _ zk => XS.iconst X142.here hx rfl (hb hby at_87) zk) ?_
    refine Go.st (T' := T142) (g' := (mkF m 89 #[.val (.int x0), .val (.int x1), .val (.long x2), .second, .val (.int x3), .val (.int x4), .val (.int (2 : Int32)), .val (.ref l133), .val (.int (0 : Int32)), .val (.int (5 : Int32)), .val (.ref b138), .unset, .unset, .unset, .unset] [(.long x2), (.int (2 : Int32)), (.ref b138)])) (fun _ zk => XS.lloadN X142.here hx rfl (hb hby at_88) rfl zk) ?_
    refine Go.st (T' := T142) (g' := (mkF m 90 #[.val (.int x0), .val (.int x1), .val (.long x2), .second, .val (.int x3), .val (.int x4), .val (.int (2 : Int32)), .val (.ref l133), .val (.int (0 : Int32)), .val (.int (5 : Int32)), .val (.ref b138), .unset, .unset, .unset, .unset] [(.int (2 : Int32)), (.long x2), (.int (2 : Int32)), (.ref b138)])) (fun _ zk => XS.iconst X142.here hx rfl (hb hby at_89) zk) ?_
    refine Go.callSt (y := (⟨"com/example/tokenweave/tokenweave/engine/BpmnReaderXmlBooleanPinLaw", "space", "(JI)C"⟩ : MethodName)) X142 hx hZ hown e142 (w22 hw) (w23 hw) (w24 hw) (w25 hw) (by decide) (argsL := [(.long x2), (.int (2 : Int32))]) (rest := [(.int (2 : Int32)), (.ref b138)]) (W := 2) (rm_space l Z a0 hw [] x2 (2 : Int32) h142 n0 (Nat.le_trans Z0 (Nat.le_trans (Nat.le_trans (Nat.le_trans E133.1 E138.1) (Keep.of_wr W140).1) (Keep.of_wr W142).1)) ) rfl (lenOf pd32 rfl) rfl (by rw [hml]; rfl) rfl (by show 2 * 0 + _ ≤ _; exact Nat.le_of_eq rfl) (by decide) (by decide) (by decide) (by decide) (hb hby at_90) ?_
    intro v143 T143 h143 L143 X143 e143 q143
    obtain ⟨sp2, hv143, qw2, Nf143, hh143⟩ := q143
    subst hv143
    have E143 : T143.heap = h142 := e143.trans hh143
    have N143 := Fr.app N142 Nf143
    show Go p.tables e below _ T143 (mkF m 93 #[.val (.int x0), .val (.int x1), .val (.long x2), .second, .val (.int x3), .val (.int x4), .val (.int (2 : Int32)), .val (.ref l133), .val (.int (0 : Int32)), .val (.int (5 : Int32)), .val (.ref b138), .unset, .unset, .unset, .unset] [(.int sp2), (.int (2 : Int32)), (.ref b138)])
    obtain ⟨T144, h144, X144, e144, W144, V144, st144⟩ := stCV X143 hx hZ E143 V142' (j := (2 : Int32)) (i := 2) (by decide) rfl (Nat.le_of_ble_eq_true rfl) (g := (mkF m 93 #[.val (.int x0), .val (.int x1), .val (.long x2), .second, .val (.int x3), .val (.int x4), .val (.int (2 : Int32)), .val (.ref l133), .val (.int (0 : Int32)), .val (.int (5 : Int32)), .val (.ref b138), .unset, .unset, .unset, .unset] [(.int sp2), (.int (2 : Int32)), (.ref b138)])) rfl rfl (hb hby at_93)
    rw [nar_cid (x := sp2) (by unfold wsr at qw2; omega)] at V144
    have V144' : Arv Z h144 b138 k138 .char (7 : Int32) [(.int sp0), (.int sp1), (.int sp2), (.int (0 : Int32)), (.int (0 : Int32)), (.int (0 : Int32)), (.int (0 : Int32))] (.int (0 : Int32)) := V144
    have N144 := Fr.snoc X144 N143 (Nat.le_trans Z0 (Nat.le_trans E133.1 (Nat.le_of_eq g138.symm)))
    refine Go.st (T' := T144) (g' := (mkF m 94 #[.val (.int x0), .val (.int x1), .val (.long x2), .second, .val (.int x3), .val (.int x4), .val (.int (2 : Int32)), .val (.ref l133), .val (.int (0 : Int32)), .val (.int (5 : Int32)), .val (.ref b138), .unset, .unset, .unset, .unset] [])) (fun _ zk => st144 _ zk) ?_
    refine Go.st (T' := T144) (g' := (mkF m 96 #[.val (.int x0), .val (.int x1), .val (.long x2), .second, .val (.int x3), .val (.int x4), .val (.int (2 : Int32)), .val (.ref l133), .val (.int (0 : Int32)), .val (.int (5 : Int32)), .val (.ref b138), .unset, .unset, .unset, .unset] [(.ref b138)])) (fun _ zk => XS.aload X144.here hx rfl (hb hby at_94) rfl rfl zk) ?_
    refine Go.st (T' := T144) (g' := (mkF m 97 #[.val (.int x0), .val (.int x1), .val (.long x2), .second, .val (.int x3), .val (.int x4), .val (.int (2 : Int32)), .val (.ref l133), .val (.int (0 : Int32)), .val (.int (5 : Int32)), .val (.ref b138), .unset, .unset, .unset, .unset] [(.int (3 : Int32)), (.ref b138)])) (fun _ zk => XS.iconst X144.here hx rfl (hb hby at_96) zk) ?_
    refine Go.st (T' := T144) (g' := (mkF m 98 #[.val (.int x0), .val (.int x1), .val (.long x2), .second, .val (.int x3), .val (.int x4), .val (.int (2 : Int32)), .val (.ref l133), .val (.int (0 : Int32)), .val (.int (5 : Int32)), .val (.ref b138), .unset, .unset, .unset, .unset] [(.long x2), (.int (3 : Int32)), (.ref b138)])) (fun _ zk => XS.lloadN X144.here hx rfl (hb hby at_97) rfl zk) ?_
    refine Go.st (T' := T144) (g' := (mkF m 99 #[.val (.int x0), .val (.int x1), .val (.long x2), .second, .val (.int x3), .val (.int x4), .val (.int (2 : Int32)), .val (.ref l133), .val (.int (0 : Int32)), .val (.int (5 : Int32)), .val (.ref b138), .unset, .unset, .unset, .unset] [(.int (3 : Int32)), (.long x2), (.int (3 : Int32)), (.ref b138)])) (fun _ zk => XS.iconst X144.here hx rfl (hb hby at_98) zk) ?_
    refine Go.callSt (y := (⟨"com/example/tokenweave/tokenweave/engine/BpmnReaderXmlBooleanPinLaw", "space", "(JI)C"⟩ : MethodName)) X144 hx hZ hown e144 (w22 hw) (w23 hw) (w24 hw) (w25 hw) (by decide) (argsL := [(.long x2), (.int (3 : Int32))]) (rest := [(.int (3 : Int32)), (.ref b138)]) (W := 2) (rm_space l Z a0 hw [] x2 (3 : Int32) h144 n0 (Nat.le_trans Z0 (Nat.le_trans (Nat.le_trans (Nat.le_trans (Nat.le_trans E133.1 E138.1) (Keep.of_wr W140).1) (Keep.of_wr W142).1) (Keep.of_wr W144).1)) ) rfl (lenOf pd32 rfl) rfl (by rw [hml]; rfl) rfl (by show 2 * 0 + _ ≤ _; exact Nat.le_of_eq rfl) (by decide) (by decide) (by decide) (by decide) (hb hby at_99) ?_
    intro v145 T145 h145 L145 X145 e145 q145
    obtain ⟨sp3, hv145, qw3, Nf145, hh145⟩ := q145
    subst hv145
    have E145 : T145.heap = h144 := e145.trans hh145
    have N145 := Fr.app N144 Nf145
    show Go p.tables e below _ T145 (mkF m 102 #[.val (.int x0), .val (.int x1), .val (.long x2), .second, .val (.int x3), .val (.int x4), .val (.int (2 : Int32)), .val (.ref l133), .val (.int (0 : Int32)), .val (.int (5 : Int32)), .val (.ref b138), .unset, .unset, .unset, .unset] [(.int sp3), (.int (3 : Int32)), (.ref b138)])
    obtain ⟨T146, h146, X146, e146, W146, V146, st146⟩ := stCV X145 hx hZ E145 V144' (j := (3 : Int32)) (i := 3) (by decide) rfl (Nat.le_of_ble_eq_true rfl) (g := (mkF m 102 #[.val (.int x0), .val (.int x1), .val (.long x2), .second, .val (.int x3), .val (.int x4), .val (.int (2 : Int32)), .val (.ref l133), .val (.int (0 : Int32)), .val (.int (5 : Int32)), .val (.ref b138), .unset, .unset, .unset, .unset] [(.int sp3), (.int (3 : Int32)), (.ref b138)])) rfl rfl (hb hby at_102)
    rw [nar_cid (x := sp3) (by unfold wsr at qw3; omega)] at V146
    have V146' : Arv Z h146 b138 k138 .char (7 : Int32) [(.int sp0), (.int sp1), (.int sp2), (.int sp3), (.int (0 : Int32)), (.int (0 : Int32)), (.int (0 : Int32))] (.int (0 : Int32)) := V146
    have N146 := Fr.snoc X146 N145 (Nat.le_trans Z0 (Nat.le_trans E133.1 (Nat.le_of_eq g138.symm)))
    refine Go.st (T' := T146) (g' := (mkF m 103 #[.val (.int x0), .val (.int x1), .val (.long x2), .second, .val (.int x3), .val (.int x4), .val (.int (2 : Int32)), .val (.ref l133), .val (.int (0 : Int32)), .val (.int (5 : Int32)), .val (.ref b138), .unset, .unset, .unset, .unset] [])) (fun _ zk => st146 _ zk) ?_
    refine Go.st (T' := T146) (g' := (mkF m 105 #[.val (.int x0), .val (.int x1), .val (.long x2), .second, .val (.int x3), .val (.int x4), .val (.int (2 : Int32)), .val (.ref l133), .val (.int (0 : Int32)), .val (.int (5 : Int32)), .val (.ref b138), .unset, .unset, .unset, .unset] [(.ref b138)])) (fun _ zk => XS.aload X146.here hx rfl (hb hby at_103) rfl rfl zk) ?_
    refine Go.st (T' := T146) (g' := (mkF m 106 #[.val (.int x0), .val (.int x1), .val (.long x2), .second, .val (.int x3), .val (.int x4), .val (.int (2 : Int32)), .val (.ref l133), .val (.int (0 : Int32)), .val (.int (5 : Int32)), .val (.ref b138), .unset, .unset, .unset, .unset] [(.int (4 : Int32)), (.ref b138)])) (fun _ zk => XS.iconst X146.here hx rfl (hb hby at_105) zk) ?_
    refine Go.st (T' := T146) (g' := (mkF m 107 #[.val (.int x0), .val (.int x1), .val (.long x2), .second, .val (.int x3), .val (.int x4), .val (.int (2 : Int32)), .val (.ref l133), .val (.int (0 : Int32)), .val (.int (5 : Int32)), .val (.ref b138), .unset, .unset, .unset, .unset] [(.long x2), (.int (4 : Int32)), (.ref b138)])) (fun _ zk => XS.lloadN X146.here hx rfl (hb hby at_106) rfl zk) ?_
    refine Go.st (T' := T146) (g' := (mkF m 108 #[.val (.int x0), .val (.int x1), .val (.long x2), .second, .val (.int x3), .val (.int x4), .val (.int (2 : Int32)), .val (.ref l133), .val (.int (0 : Int32)), .val (.int (5 : Int32)), .val (.ref b138), .unset, .unset, .unset, .unset] [(.int (4 : Int32)), (.long x2), (.int (4 : Int32)), (.ref b138)])) (fun _ zk => XS.iconst X146.here hx rfl (hb hby at_107) zk) ?_
    refine Go.callSt (y := (⟨"com/example/tokenweave/tokenweave/engine/BpmnReaderXmlBooleanPinLaw", "space", "(JI)C"⟩ : MethodName)) X146 hx hZ hown e146 (w22 hw) (w23 hw) (w24 hw) (w25 hw) (by decide) (argsL := [(.long x2), (.int (4 : Int32))]) (rest := [(.int (4 : Int32)), (.ref b138)]) (W := 2) (rm_space l Z a0 hw [] x2 (4 : Int32) h146 n0 (Nat.le_trans Z0 (Nat.le_trans (Nat.le_trans (Nat.le_trans (Nat.le_trans (Nat.le_trans E133.1 E138.1) (Keep.of_wr W140).1) (Keep.of_wr W142).1) (Keep.of_wr W144).1) (Keep.of_wr W146).1)) ) rfl (lenOf pd32 rfl) rfl (by rw [hml]; rfl) rfl (by show 2 * 0 + _ ≤ _; exact Nat.le_of_eq rfl) (by decide) (by decide) (by decide) (by decide) (hb hby at_108) ?_
    intro v147 T147 h147 L147 X147 e147 q147
    obtain ⟨sp4, hv147, qw4, Nf147, hh147⟩ := q147
    subst hv147
    have E147 : T147.heap = h146 := e147.trans hh147
    have N147 := Fr.app N146 Nf147
    show Go p.tables e below _ T147 (mkF m 111 #[.val (.int x0), .val (.int x1), .val (.long x2), .second, .val (.int x3), .val (.int x4), .val (.int (2 : Int32)), .val (.ref l133), .val (.int (0 : Int32)), .val (.int (5 : Int32)), .val (.ref b138), .unset, .unset, .unset, .unset] [(.int sp4), (.int (4 : Int32)), (.ref b138)])
    obtain ⟨T148, h148, X148, e148, W148, V148, st148⟩ := stCV X147 hx hZ E147 V146' (j := (4 : Int32)) (i := 4) (by decide) rfl (Nat.le_of_ble_eq_true rfl) (g := (mkF m 111 #[.val (.int x0), .val (.int x1), .val (.long x2), .second, .val (.int x3), .val (.int x4), .val (.int (2 : Int32)), .val (.ref l133), .val (.int (0 : Int32)), .val (.int (5 : Int32)), .val (.ref b138), .unset, .unset, .unset, .unset] [(.int sp4), (.int (4 : Int32)), (.ref b138)])) rfl rfl (hb hby at_111)
    rw [nar_cid (x := sp4) (by unfold wsr at qw4; omega)] at V148
    have V148' : Arv Z h148 b138 k138 .char (7 : Int32) [(.int sp0), (.int sp1), (.int sp2), (.int sp3), (.int sp4), (.int (0 : Int32)), (.int (0 : Int32))] (.int (0 : Int32)) := V148
    have N148 := Fr.snoc X148 N147 (Nat.le_trans Z0 (Nat.le_trans E133.1 (Nat.le_of_eq g138.symm)))
    refine Go.st (T' := T148) (g' := (mkF m 112 #[.val (.int x0), .val (.int x1), .val (.long x2), .second, .val (.int x3), .val (.int x4), .val (.int (2 : Int32)), .val (.ref l133), .val (.int (0 : Int32)), .val (.int (5 : Int32)), .val (.ref b138), .unset, .unset, .unset, .unset] [])) (fun _ zk => st148 _ zk) ?_
    refine Go.st (T' := T148) (g' := (mkF m 114 #[.val (.int x0), .val (.int x1), .val (.long x2), .second, .val (.int x3), .val (.int x4), .val (.int (2 : Int32)), .val (.ref l133), .val (.int (0 : Int32)), .val (.int (5 : Int32)), .val (.ref b138), .unset, .unset, .unset, .unset] [(.ref b138)])) (fun _ zk => XS.aload X148.here hx rfl (hb hby at_112) rfl rfl zk) ?_
    refine Go.st (T' := T148) (g' := (mkF m 115 #[.val (.int x0), .val (.int x1), .val (.long x2), .second, .val (.int x3), .val (.int x4), .val (.int (2 : Int32)), .val (.ref l133), .val (.int (0 : Int32)), .val (.int (5 : Int32)), .val (.ref b138), .unset, .unset, .unset, .unset] [(.int (5 : Int32)), (.ref b138)])) (fun _ zk => XS.iconst X148.here hx rfl (hb hby at_114) zk) ?_
    refine Go.st (T' := T148) (g' := (mkF m 116 #[.val (.int x0), .val (.int x1), .val (.long x2), .second, .val (.int x3), .val (.int x4), .val (.int (2 : Int32)), .val (.ref l133), .val (.int (0 : Int32)), .val (.int (5 : Int32)), .val (.ref b138), .unset, .unset, .unset, .unset] [(.long x2), (.int (5 : Int32)), (.ref b138)])) (fun _ zk => XS.lloadN X148.here hx rfl (hb hby at_115) rfl zk) ?_
    refine Go.st (T' := T148) (g' := (mkF m 117 #[.val (.int x0), .val (.int x1), .val (.long x2), .second, .val (.int x3), .val (.int x4), .val (.int (2 : Int32)), .val (.ref l133), .val (.int (0 : Int32)), .val (.int (5 : Int32)), .val (.ref b138), .unset, .unset, .unset, .unset] [(.int (5 : Int32)), (.long x2), (.int (5 : Int32)), (.ref b138)])) (fun _ zk => XS.iconst X148.here hx rfl (hb hby at_116) zk) ?_
    refine Go.callSt (y := (⟨"com/example/tokenweave/tokenweave/engine/BpmnReaderXmlBooleanPinLaw", "space", "(JI)C"⟩ : MethodName)) X148 hx hZ hown e148 (w22 hw) (w23 hw) (w24 hw) (w25 hw) (by decide) (argsL := [(.long x2), (.int (5 : Int32))]) (rest := [(.int (5 : Int32)), (.ref b138)]) (W := 2) (rm_space l Z a0 hw [] x2 (5 : Int32) h148 n0 (Nat.le_trans Z0 (Nat.le_trans (Nat.le_trans (Nat.le_trans (Nat.le_trans (Nat.le_trans (Nat.le_trans E133.1 E138.1) (Keep.of_wr W140).1) (Keep.of_wr W142).1) (Keep.of_wr W144).1) (Keep.of_wr W146).1) (Keep.of_wr W148).1)) ) rfl (lenOf pd32 rfl) rfl (by rw [hml]; rfl) rfl (by show 2 * 0 + _ ≤ _; exact Nat.le_of_eq rfl) (by decide) (by decide) (by decide) (by decide) (hb hby at_117) ?_
    intro v149 T149 h149 L149 X149 e149 q149
    obtain ⟨sp5, hv149, qw5, Nf149, hh149⟩ := q149
    subst hv149
    have E149 : T149.heap = h148 := e149.trans hh149
    have N149 := Fr.app N148 Nf149
    show Go p.tables e below _ T149 (mkF m 120 #[.val (.int x0), .val (.int x1), .val (.long x2), .second, .val (.int x3), .val (.int x4), .val (.int (2 : Int32)), .val (.ref l133), .val (.int (0 : Int32)), .val (.int (5 : Int32)), .val (.ref b138), .unset, .unset, .unset, .unset] [(.int sp5), (.int (5 : Int32)), (.ref b138)])
    obtain ⟨T150, h150, X150, e150, W150, V150, st150⟩ := stCV X149 hx hZ E149 V148' (j := (5 : Int32)) (i := 5) (by decide) rfl (Nat.le_of_ble_eq_true rfl) (g := (mkF m 120 #[.val (.int x0), .val (.int x1), .val (.long x2), .second, .val (.int x3), .val (.int x4), .val (.int (2 : Int32)), .val (.ref l133), .val (.int (0 : Int32)), .val (.int (5 : Int32)), .val (.ref b138), .unset, .unset, .unset, .unset] [(.int sp5), (.int (5 : Int32)), (.ref b138)])) rfl rfl (hb hby at_120)
    rw [nar_cid (x := sp5) (by unfold wsr at qw5; omega)] at V150
    have V150' : Arv Z h150 b138 k138 .char (7 : Int32) [(.int sp0), (.int sp1), (.int sp2), (.int sp3), (.int sp4), (.int sp5), (.int (0 : Int32))] (.int (0 : Int32)) := V150
    have N150 := Fr.snoc X150 N149 (Nat.le_trans Z0 (Nat.le_trans E133.1 (Nat.le_of_eq g138.symm)))
    refine Go.st (T' := T150) (g' := (mkF m 121 #[.val (.int x0), .val (.int x1), .val (.long x2), .second, .val (.int x3), .val (.int x4), .val (.int (2 : Int32)), .val (.ref l133), .val (.int (0 : Int32)), .val (.int (5 : Int32)), .val (.ref b138), .unset, .unset, .unset, .unset] [])) (fun _ zk => st150 _ zk) ?_
    refine Go.st (T' := T150) (g' := (mkF m 123 #[.val (.int x0), .val (.int x1), .val (.long x2), .second, .val (.int x3), .val (.int x4), .val (.int (2 : Int32)), .val (.ref l133), .val (.int (0 : Int32)), .val (.int (5 : Int32)), .val (.ref b138), .unset, .unset, .unset, .unset] [(.ref b138)])) (fun _ zk => XS.aload X150.here hx rfl (hb hby at_121) rfl rfl zk) ?_
    refine Go.st (T' := T150) (g' := (mkF m 125 #[.val (.int x0), .val (.int x1), .val (.long x2), .second, .val (.int x3), .val (.int x4), .val (.int (2 : Int32)), .val (.ref l133), .val (.int (0 : Int32)), .val (.int (5 : Int32)), .val (.ref b138), .unset, .unset, .unset, .unset] [(.int (6 : Int32)), (.ref b138)])) (fun _ zk => XS.bipush X150.here hx rfl (hb hby at_123) zk) ?_
    refine Go.st (T' := T150) (g' := (mkF m 126 #[.val (.int x0), .val (.int x1), .val (.long x2), .second, .val (.int x3), .val (.int x4), .val (.int (2 : Int32)), .val (.ref l133), .val (.int (0 : Int32)), .val (.int (5 : Int32)), .val (.ref b138), .unset, .unset, .unset, .unset] [(.long x2), (.int (6 : Int32)), (.ref b138)])) (fun _ zk => XS.lloadN X150.here hx rfl (hb hby at_125) rfl zk) ?_
    refine Go.st (T' := T150) (g' := (mkF m 128 #[.val (.int x0), .val (.int x1), .val (.long x2), .second, .val (.int x3), .val (.int x4), .val (.int (2 : Int32)), .val (.ref l133), .val (.int (0 : Int32)), .val (.int (5 : Int32)), .val (.ref b138), .unset, .unset, .unset, .unset] [(.int (6 : Int32)), (.long x2), (.int (6 : Int32)), (.ref b138)])) (fun _ zk => XS.bipush X150.here hx rfl (hb hby at_126) zk) ?_
    refine Go.callSt (y := (⟨"com/example/tokenweave/tokenweave/engine/BpmnReaderXmlBooleanPinLaw", "space", "(JI)C"⟩ : MethodName)) X150 hx hZ hown e150 (w22 hw) (w23 hw) (w24 hw) (w25 hw) (by decide) (argsL := [(.long x2), (.int (6 : Int32))]) (rest := [(.int (6 : Int32)), (.ref b138)]) (W := 2) (rm_space l Z a0 hw [] x2 (6 : Int32) h150 n0 (Nat.le_trans Z0 (Nat.le_trans (Nat.le_trans (Nat.le_trans (Nat.le_trans (Nat.le_trans (Nat.le_trans (Nat.le_trans E133.1 E138.1) (Keep.of_wr W140).1) (Keep.of_wr W142).1) (Keep.of_wr W144).1) (Keep.of_wr W146).1) (Keep.of_wr W148).1) (Keep.of_wr W150).1)) ) rfl (lenOf pd32 rfl) rfl (by rw [hml]; rfl) rfl (by show 2 * 0 + _ ≤ _; exact Nat.le_of_eq rfl) (by decide) (by decide) (by decide) (by decide) (hb hby at_128) ?_
    intro v151 T151 h151 L151 X151 e151 q151
    obtain ⟨sp6, hv151, qw6, Nf151, hh151⟩ := q151
    subst hv151
    have E151 : T151.heap = h150 := e151.trans hh151
    have N151 := Fr.app N150 Nf151
    show Go p.tables e below _ T151 (mkF m 131 #[.val (.int x0), .val (.int x1), .val (.long x2), .second, .val (.int x3), .val (.int x4), .val (.int (2 : Int32)), .val (.ref l133), .val (.int (0 : Int32)), .val (.int (5 : Int32)), .val (.ref b138), .unset, .unset, .unset, .unset] [(.int sp6), (.int (6 : Int32)), (.ref b138)])
    obtain ⟨T152, h152, X152, e152, W152, V152, st152⟩ := stCV X151 hx hZ E151 V150' (j := (6 : Int32)) (i := 6) (by decide) rfl (Nat.le_of_ble_eq_true rfl) (g := (mkF m 131 #[.val (.int x0), .val (.int x1), .val (.long x2), .second, .val (.int x3), .val (.int x4), .val (.int (2 : Int32)), .val (.ref l133), .val (.int (0 : Int32)), .val (.int (5 : Int32)), .val (.ref b138), .unset, .unset, .unset, .unset] [(.int sp6), (.int (6 : Int32)), (.ref b138)])) rfl rfl (hb hby at_131)
    rw [nar_cid (x := sp6) (by unfold wsr at qw6; omega)] at V152
    have V152' : Arv Z h152 b138 k138 .char (7 : Int32) [(.int sp0), (.int sp1), (.int sp2), (.int sp3), (.int sp4), (.int sp5), (.int sp6)] (.int (0 : Int32)) := V152
    have N152 := Fr.snoc X152 N151 (Nat.le_trans Z0 (Nat.le_trans E133.1 (Nat.le_of_eq g138.symm)))
    refine Go.st (T' := T152) (g' := (mkF m 132 #[.val (.int x0), .val (.int x1), .val (.long x2), .second, .val (.int x3), .val (.int x4), .val (.int (2 : Int32)), .val (.ref l133), .val (.int (0 : Int32)), .val (.int (5 : Int32)), .val (.ref b138), .unset, .unset, .unset, .unset] [])) (fun _ zk => st152 _ zk) ?_
    refine Go.st (T' := T152) (g' := (mkF m 133 #[.val (.int x0), .val (.int x1), .val (.long x2), .second, .val (.int x3), .val (.int x4), .val (.int (2 : Int32)), .val (.ref l133), .val (.int (0 : Int32)), .val (.int (5 : Int32)), .val (.ref b138), .unset, .unset, .unset, .unset] [(.int x1)])) (fun _ zk => XS.iloadN X152.here hx rfl (hb hby at_132) rfl zk) ?_
    refine Go.st (T' := T152) (g' := (mkF m 135 #[.val (.int x0), .val (.int x1), .val (.long x2), .second, .val (.int x3), .val (.int x4), .val (.int (2 : Int32)), .val (.ref l133), .val (.int (0 : Int32)), .val (.int (5 : Int32)), .val (.ref b138), .unset, .unset, .unset, .unset] [(.int (2147483647 : Int32)), (.int x1)])) (fun _ zk => X152.ldcI hx hown (mvT hZ (w27 hw)) rfl (hb hby at_133) zk) ?_
    refine Go.st (T' := T152) (g' := (mkF m 136 #[.val (.int x0), .val (.int x1), .val (.long x2), .second, .val (.int x3), .val (.int x4), .val (.int (2 : Int32)), .val (.ref l133), .val (.int (0 : Int32)), .val (.int (5 : Int32)), .val (.ref b138), .unset, .unset, .unset, .unset] [(.int (x1 &&& (2147483647 : Int32)))])) (fun _ zk => XS.iand X152.here hx rfl (hb hby at_135) rfl zk) ?_
    refine Go.st (T' := T152) (g' := (mkF m 138 #[.val (.int x0), .val (.int x1), .val (.long x2), .second, .val (.int x3), .val (.int x4), .val (.int (2 : Int32)), .val (.ref l133), .val (.int (0 : Int32)), .val (.int (5 : Int32)), .val (.ref b138), .unset, .unset, .unset, .unset] [(.int (8 : Int32)), (.int (x1 &&& (2147483647 : Int32)))])) (fun _ zk => XS.bipush X152.here hx rfl (hb hby at_136) zk) ?_
    refine Go.st (T' := T152) (g' := (mkF m 140 #[.val (.int x0), .val (.int x1), .val (.long x2), .second, .val (.int x3), .val (.int x4), .val (.int (2 : Int32)), .val (.ref l133), .val (.int (0 : Int32)), .val (.int (5 : Int32)), .val (.ref b138), .unset, .unset, .unset, .unset] [(.int (5 : Int32)), (.int (8 : Int32)), (.int (x1 &&& (2147483647 : Int32)))])) (fun _ zk => XS.iload X152.here hx rfl (hb hby at_138) rfl zk) ?_
    refine Go.st (T' := T152) (g' := (mkF m 141 #[.val (.int x0), .val (.int x1), .val (.long x2), .second, .val (.int x3), .val (.int x4), .val (.int (2 : Int32)), .val (.ref l133), .val (.int (0 : Int32)), .val (.int (5 : Int32)), .val (.ref b138), .unset, .unset, .unset, .unset] [(.int ((8 : Int32) - (5 : Int32))), (.int (x1 &&& (2147483647 : Int32)))])) (fun _ zk => XS.isub X152.here hx rfl (hb hby at_140) rfl zk) ?_
    rw [show ((8 : Int32) - (5 : Int32)) = (3 : Int32) from by decide]
    refine Go.st (T' := T152) (g' := (mkF m 142 #[.val (.int x0), .val (.int x1), .val (.long x2), .second, .val (.int x3), .val (.int x4), .val (.int (2 : Int32)), .val (.ref l133), .val (.int (0 : Int32)), .val (.int (5 : Int32)), .val (.ref b138), .unset, .unset, .unset, .unset] [(.int ((x1 &&& (2147483647 : Int32)) % (3 : Int32)))])) (fun _ zk => iremM X152 hx rfl (hb hby at_141) rfl (by decide) zk) ?_
    obtain ⟨pn, hpn, hlt⟩ := own_pn x1 (3 : Int32) 3 (by decide) (by decide)
    rw [hpn]
    have V153 : Arv Z h152 b138 k138 .char (7 : Int32) (([sp0, sp1, sp2, sp3, sp4, sp5, sp6] : List Int32).map Value.int) (.int (0 : Int32)) := V152'
    have hwl : ∀ c ∈ ([sp0, sp1, sp2, sp3, sp4, sp5, sp6] : List Int32), wsr c := by
      simp only [List.forall_mem_cons]
      exact ⟨qw0, qw1, qw2, qw3, qw4, qw5, qw6, fun _ q => nomatch q⟩
    refine Go.st (T' := T152) (g' := (mkF m 144 #[.val (.int x0), .val (.int x1), .val (.long x2), .second, .val (.int x3), .val (.int x4), .val (.int (2 : Int32)), .val (.ref l133), .val (.int (0 : Int32)), .val (.int (5 : Int32)), .val (.ref b138), .val (.int (Int32.ofNat pn)), .unset, .unset, .unset] [])) (fun _ zk => XS.istore X152.here hx rfl (hb hby at_142) rfl (l' := #[.val (.int x0), .val (.int x1), .val (.long x2), .second, .val (.int x3), .val (.int x4), .val (.int (2 : Int32)), .val (.ref l133), .val (.int (0 : Int32)), .val (.int (5 : Int32)), .val (.ref b138), .val (.int (Int32.ofNat pn)), .unset, .unset, .unset]) rfl zk) ?_
    refine Go.st (T' := T152) (g' := (mkF m 146 #[.val (.int x0), .val (.int x1), .val (.long x2), .second, .val (.int x3), .val (.int x4), .val (.int (2 : Int32)), .val (.ref l133), .val (.int (0 : Int32)), .val (.int (5 : Int32)), .val (.ref b138), .val (.int (Int32.ofNat pn)), .unset, .unset, .unset] [(.ref b138)])) (fun _ zk => XS.aload X152.here hx rfl (hb hby at_144) rfl rfl zk) ?_
    refine Go.st (T' := T152) (g' := (mkF m 148 #[.val (.int x0), .val (.int x1), .val (.long x2), .second, .val (.int x3), .val (.int x4), .val (.int (2 : Int32)), .val (.ref l133), .val (.int (0 : Int32)), .val (.int (5 : Int32)), .val (.ref b138), .val (.int (Int32.ofNat pn)), .unset, .unset, .unset] [(.int (Int32.ofNat pn)), (.ref b138)])) (fun _ zk => XS.iload X152.here hx rfl (hb hby at_146) rfl zk) ?_
    refine Go.st (T' := T152) (g' := (mkF m 150 #[.val (.int x0), .val (.int x1), .val (.long x2), .second, .val (.int x3), .val (.int x4), .val (.int (2 : Int32)), .val (.ref l133), .val (.int (0 : Int32)), .val (.int (5 : Int32)), .val (.ref b138), .val (.int (Int32.ofNat pn)), .unset, .unset, .unset] [(.ref l133), (.int (Int32.ofNat pn)), (.ref b138)])) (fun _ zk => XS.aload X152.here hx rfl (hb hby at_148) rfl rfl zk) ?_
    refine Go.st (T' := T152) (g' := (mkF m 151 #[.val (.int x0), .val (.int x1), .val (.long x2), .second, .val (.int x3), .val (.int x4), .val (.int (2 : Int32)), .val (.ref l133), .val (.int (0 : Int32)), .val (.int (5 : Int32)), .val (.ref b138), .val (.int (Int32.ofNat pn)), .unset, .unset, .unset] [(.int (0 : Int32)), (.ref l133), (.int (Int32.ofNat pn)), (.ref b138)])) (fun _ zk => XS.iconst X152.here hx rfl (hb hby at_150) zk) ?_
    have xt154 : Ext h133 h152 := (((((((E138.thenW W140 (Nat.le_of_eq g138.symm)).thenW W142 (Nat.le_of_eq g138.symm)).thenW W144 (Nat.le_of_eq g138.symm)).thenW W146 (Nat.le_of_eq g138.symm)).thenW W148 (Nat.le_of_eq g138.symm)).thenW W150 (Nat.le_of_eq g138.symm)).thenW W152 (Nat.le_of_eq g138.symm))
    have f155 := SL.ext xt154
    have f157 := f137.ext xt154
    have f158 := A133.ext xt154
    refine Go.callV (y := (⟨"java/lang/String", "charAt", "(I)C"⟩ : MethodName)) (z := (⟨"java/lang/String", "charAt", "(I)C"⟩ : MethodName)) (C := "java/lang/String") (a := l133) X152 hx hZ hown e152 (w28 hw) (w29 hw) (w31 hw) (w30 hw) (w1 hw) (w32 hw) (notFace_of_selects (args := #[]) (mvT hZ (w31 hw))) (by decide) f158 (argsL := [(.int (0 : Int32))]) (rest := [(.int (Int32.ofNat pn)), (.ref b138)]) (W := 2) (rm_charAtG l Z a0 hw [] l133 [(102 : Int32), (97 : Int32), (108 : Int32), (115 : Int32), (101 : Int32)] 0 zc fm h152 n0 (Nat.le_trans Z0 (Nat.le_trans (Nat.le_trans (Nat.le_trans (Nat.le_trans (Nat.le_trans (Nat.le_trans (Nat.le_trans (Nat.le_trans E133.1 E138.1) (Keep.of_wr W140).1) (Keep.of_wr W142).1) (Keep.of_wr W144).1) (Keep.of_wr W146).1) (Keep.of_wr W148).1) (Keep.of_wr W150).1) (Keep.of_wr W152).1)) f157 f155 (by decide) (by decide) CS hz FM rf) rfl (lenOf pd33 rfl) rfl (by rw [hml]; rfl) rfl (by show 2 * 0 + _ ≤ _; exact Nat.le_of_eq rfl) (by decide) (by decide) (by decide) (by decide) (hb hby at_151) ?_
    intro v156 T156 h156 L156 X156 e156 q156
    obtain ⟨hv156, Nf156, hh156⟩ := q156
    subst hv156
    have E156 : T156.heap = h152 := e156.trans hh156
    have N156 := Fr.app N152 Nf156
    show Go p.tables e below _ T156 (mkF m 154 #[.val (.int x0), .val (.int x1), .val (.long x2), .second, .val (.int x3), .val (.int x4), .val (.int (2 : Int32)), .val (.ref l133), .val (.int (0 : Int32)), .val (.int (5 : Int32)), .val (.ref b138), .val (.int (Int32.ofNat pn)), .unset, .unset, .unset] [(.int (((([(102 : Int32), (97 : Int32), (108 : Int32), (115 : Int32), (101 : Int32)] : List Int32).getD 0 0) &&& (255 : Int32)).toUInt32.toUInt16.toUInt32.toInt32)), (.int (Int32.ofNat pn)), (.ref b138)])
    rw [show (((([(102 : Int32), (97 : Int32), (108 : Int32), (115 : Int32), (101 : Int32)] : List Int32).getD 0 0) &&& (255 : Int32)).toUInt32.toUInt16.toUInt32.toInt32) = (102 : Int32) from by decide]
    obtain ⟨T159, h159, X159, e159, W159, V159, st159⟩ := stCV X156 hx hZ E156 V153 (j := (Int32.ofNat pn)) (i := pn) ⟨own_ofn0 (by omega), own_oflt (n := 7) (by omega) (by omega)⟩ (own_clamp (by omega)) (by simp only [List.length_map, List.length_set, List.length_cons, List.length_nil]; omega) (g := (mkF m 154 #[.val (.int x0), .val (.int x1), .val (.long x2), .second, .val (.int x3), .val (.int x4), .val (.int (2 : Int32)), .val (.ref l133), .val (.int (0 : Int32)), .val (.int (5 : Int32)), .val (.ref b138), .val (.int (Int32.ofNat pn)), .unset, .unset, .unset] [(.int (102 : Int32)), (.int (Int32.ofNat pn)), (.ref b138)])) rfl rfl (hb hby at_154)
    rw [show nar .char (102 : Int32) = (102 : Int32) from by decide, ← List.map_set] at V159
    have N159 := Fr.snoc X159 N156 (Nat.le_trans Z0 (Nat.le_trans E133.1 (Nat.le_of_eq g138.symm)))
    refine Go.st (T' := T159) (g' := (mkF m 155 #[.val (.int x0), .val (.int x1), .val (.long x2), .second, .val (.int x3), .val (.int x4), .val (.int (2 : Int32)), .val (.ref l133), .val (.int (0 : Int32)), .val (.int (5 : Int32)), .val (.ref b138), .val (.int (Int32.ofNat pn)), .unset, .unset, .unset] [])) (fun _ zk => st159 _ zk) ?_
    refine Go.st (T' := T159) (g' := (mkF m 157 #[.val (.int x0), .val (.int x1), .val (.long x2), .second, .val (.int x3), .val (.int x4), .val (.int (2 : Int32)), .val (.ref l133), .val (.int (0 : Int32)), .val (.int (5 : Int32)), .val (.ref b138), .val (.int (Int32.ofNat pn)), .unset, .unset, .unset] [(.int (5 : Int32))])) (fun _ zk => XS.iload X159.here hx rfl (hb hby at_155) rfl zk) ?_
    refine Go.st (T' := T159) (g' := (mkF m 158 #[.val (.int x0), .val (.int x1), .val (.long x2), .second, .val (.int x3), .val (.int x4), .val (.int (2 : Int32)), .val (.ref l133), .val (.int (0 : Int32)), .val (.int (5 : Int32)), .val (.ref b138), .val (.int (Int32.ofNat pn)), .unset, .unset, .unset] [(.int (1 : Int32)), (.int (5 : Int32))])) (fun _ zk => XS.iconst X159.here hx rfl (hb hby at_157) zk) ?_
    refine Go.st (T' := T159) (g' := (mkF m 161 #[.val (.int x0), .val (.int x1), .val (.long x2), .second, .val (.int x3), .val (.int x4), .val (.int (2 : Int32)), .val (.ref l133), .val (.int (0 : Int32)), .val (.int (5 : Int32)), .val (.ref b138), .val (.int (Int32.ofNat pn)), .unset, .unset, .unset] [])) (fun _ zk => XS.icmpNo X159.here hx rfl (hb hby at_158) rfl (tlt ((by decide) : (1 : Int32) < (5 : Int32))).2.2.2 zk) ?_
    refine Go.st (T' := T159) (g' := (mkF m 163 #[.val (.int x0), .val (.int x1), .val (.long x2), .second, .val (.int x3), .val (.int x4), .val (.int (2 : Int32)), .val (.ref l133), .val (.int (0 : Int32)), .val (.int (5 : Int32)), .val (.ref b138), .val (.int (Int32.ofNat pn)), .unset, .unset, .unset] [(.ref b138)])) (fun _ zk => XS.aload X159.here hx rfl (hb hby at_161) rfl rfl zk) ?_
    refine Go.st (T' := T159) (g' := (mkF m 165 #[.val (.int x0), .val (.int x1), .val (.long x2), .second, .val (.int x3), .val (.int x4), .val (.int (2 : Int32)), .val (.ref l133), .val (.int (0 : Int32)), .val (.int (5 : Int32)), .val (.ref b138), .val (.int (Int32.ofNat pn)), .unset, .unset, .unset] [(.int (Int32.ofNat pn)), (.ref b138)])) (fun _ zk => XS.iload X159.here hx rfl (hb hby at_163) rfl zk) ?_
    refine Go.st (T' := T159) (g' := (mkF m 166 #[.val (.int x0), .val (.int x1), .val (.long x2), .second, .val (.int x3), .val (.int x4), .val (.int (2 : Int32)), .val (.ref l133), .val (.int (0 : Int32)), .val (.int (5 : Int32)), .val (.ref b138), .val (.int (Int32.ofNat pn)), .unset, .unset, .unset] [(.int (1 : Int32)), (.int (Int32.ofNat pn)), (.ref b138)])) (fun _ zk => XS.iconst X159.here hx rfl (hb hby at_165) zk) ?_
    refine Go.st (T' := T159) (g' := (mkF m 167 #[.val (.int x0), .val (.int x1), .val (.long x2), .second, .val (.int x3), .val (.int x4), .val (.int (2 : Int32)), .val (.ref l133), .val (.int (0 : Int32)), .val (.int (5 : Int32)), .val (.ref b138), .val (.int (Int32.ofNat pn)), .unset, .unset, .unset] [(.int ((Int32.ofNat pn) + (1 : Int32))), (.ref b138)])) (fun _ zk => XS.iadd X159.here hx rfl (hb hby at_166) rfl zk) ?_
    rw [show Int32.ofNat pn + (1 : Int32) = Int32.ofNat (pn + 1) from (Int32.ofNat_add pn 1).symm]
    refine Go.st (T' := T159) (g' := (mkF m 169 #[.val (.int x0), .val (.int x1), .val (.long x2), .second, .val (.int x3), .val (.int x4), .val (.int (2 : Int32)), .val (.ref l133), .val (.int (0 : Int32)), .val (.int (5 : Int32)), .val (.ref b138), .val (.int (Int32.ofNat pn)), .unset, .unset, .unset] [(.ref l133), (.int (Int32.ofNat (pn + 1))), (.ref b138)])) (fun _ zk => XS.aload X159.here hx rfl (hb hby at_167) rfl rfl zk) ?_
    refine Go.st (T' := T159) (g' := (mkF m 170 #[.val (.int x0), .val (.int x1), .val (.long x2), .second, .val (.int x3), .val (.int x4), .val (.int (2 : Int32)), .val (.ref l133), .val (.int (0 : Int32)), .val (.int (5 : Int32)), .val (.ref b138), .val (.int (Int32.ofNat pn)), .unset, .unset, .unset] [(.int (1 : Int32)), (.ref l133), (.int (Int32.ofNat (pn + 1))), (.ref b138)])) (fun _ zk => XS.iconst X159.here hx rfl (hb hby at_169) zk) ?_
    have xt160 : Ext h133 h159 := (xt154.thenW W159 (Nat.le_of_eq g138.symm))
    have f161 := SL.ext xt160
    have f163 := (f157.wr W159 (Nat.le_trans Z0 (Nat.le_trans E133.1 (Nat.le_of_eq g138.symm))))
    have f164 := (f158.wr W159)
    refine Go.callV (y := (⟨"java/lang/String", "charAt", "(I)C"⟩ : MethodName)) (z := (⟨"java/lang/String", "charAt", "(I)C"⟩ : MethodName)) (C := "java/lang/String") (a := l133) X159 hx hZ hown e159 (w28 hw) (w29 hw) (w31 hw) (w30 hw) (w1 hw) (w32 hw) (notFace_of_selects (args := #[]) (mvT hZ (w31 hw))) (by decide) f164 (argsL := [(.int (1 : Int32))]) (rest := [(.int (Int32.ofNat (pn + 1))), (.ref b138)]) (W := 2) (rm_charAtG l Z a0 hw [] l133 [(102 : Int32), (97 : Int32), (108 : Int32), (115 : Int32), (101 : Int32)] 1 zc fm h159 n0 (Nat.le_trans Z0 (Nat.le_trans (Nat.le_trans (Nat.le_trans (Nat.le_trans (Nat.le_trans (Nat.le_trans (Nat.le_trans (Nat.le_trans (Nat.le_trans E133.1 E138.1) (Keep.of_wr W140).1) (Keep.of_wr W142).1) (Keep.of_wr W144).1) (Keep.of_wr W146).1) (Keep.of_wr W148).1) (Keep.of_wr W150).1) (Keep.of_wr W152).1) (Keep.of_wr W159).1)) f163 f161 (by decide) (by decide) CS hz FM rf) rfl (lenOf pd33 rfl) rfl (by rw [hml]; rfl) rfl (by show 2 * 0 + _ ≤ _; exact Nat.le_of_eq rfl) (by decide) (by decide) (by decide) (by decide) (hb hby at_170) ?_
    intro v162 T162 h162 L162 X162 e162 q162
    obtain ⟨hv162, Nf162, hh162⟩ := q162
    subst hv162
    have E162 : T162.heap = h159 := e162.trans hh162
    have N162 := Fr.app N159 Nf162
    show Go p.tables e below _ T162 (mkF m 173 #[.val (.int x0), .val (.int x1), .val (.long x2), .second, .val (.int x3), .val (.int x4), .val (.int (2 : Int32)), .val (.ref l133), .val (.int (0 : Int32)), .val (.int (5 : Int32)), .val (.ref b138), .val (.int (Int32.ofNat pn)), .unset, .unset, .unset] [(.int (((([(102 : Int32), (97 : Int32), (108 : Int32), (115 : Int32), (101 : Int32)] : List Int32).getD 1 0) &&& (255 : Int32)).toUInt32.toUInt16.toUInt32.toInt32)), (.int (Int32.ofNat (pn + 1))), (.ref b138)])
    rw [show (((([(102 : Int32), (97 : Int32), (108 : Int32), (115 : Int32), (101 : Int32)] : List Int32).getD 1 0) &&& (255 : Int32)).toUInt32.toUInt16.toUInt32.toInt32) = (97 : Int32) from by decide]
    obtain ⟨T165, h165, X165, e165, W165, V165, st165⟩ := stCV X162 hx hZ E162 V159 (j := (Int32.ofNat (pn + 1))) (i := (pn + 1)) ⟨own_ofn0 (by omega), own_oflt (n := 7) (by omega) (by omega)⟩ (own_clamp (by omega)) (by simp only [List.length_map, List.length_set, List.length_cons, List.length_nil]; omega) (g := (mkF m 173 #[.val (.int x0), .val (.int x1), .val (.long x2), .second, .val (.int x3), .val (.int x4), .val (.int (2 : Int32)), .val (.ref l133), .val (.int (0 : Int32)), .val (.int (5 : Int32)), .val (.ref b138), .val (.int (Int32.ofNat pn)), .unset, .unset, .unset] [(.int (97 : Int32)), (.int (Int32.ofNat (pn + 1))), (.ref b138)])) rfl rfl (hb hby at_173)
    rw [show nar .char (97 : Int32) = (97 : Int32) from by decide, ← List.map_set] at V165
    have N165 := Fr.snoc X165 N162 (Nat.le_trans Z0 (Nat.le_trans E133.1 (Nat.le_of_eq g138.symm)))
    refine Go.st (T' := T165) (g' := (mkF m 174 #[.val (.int x0), .val (.int x1), .val (.long x2), .second, .val (.int x3), .val (.int x4), .val (.int (2 : Int32)), .val (.ref l133), .val (.int (0 : Int32)), .val (.int (5 : Int32)), .val (.ref b138), .val (.int (Int32.ofNat pn)), .unset, .unset, .unset] [])) (fun _ zk => st165 _ zk) ?_
    refine Go.st (T' := T165) (g' := (mkF m 176 #[.val (.int x0), .val (.int x1), .val (.long x2), .second, .val (.int x3), .val (.int x4), .val (.int (2 : Int32)), .val (.ref l133), .val (.int (0 : Int32)), .val (.int (5 : Int32)), .val (.ref b138), .val (.int (Int32.ofNat pn)), .unset, .unset, .unset] [(.int (5 : Int32))])) (fun _ zk => XS.iload X165.here hx rfl (hb hby at_174) rfl zk) ?_
    refine Go.st (T' := T165) (g' := (mkF m 177 #[.val (.int x0), .val (.int x1), .val (.long x2), .second, .val (.int x3), .val (.int x4), .val (.int (2 : Int32)), .val (.ref l133), .val (.int (0 : Int32)), .val (.int (5 : Int32)), .val (.ref b138), .val (.int (Int32.ofNat pn)), .unset, .unset, .unset] [(.int (2 : Int32)), (.int (5 : Int32))])) (fun _ zk => XS.iconst X165.here hx rfl (hb hby at_176) zk) ?_
    refine Go.st (T' := T165) (g' := (mkF m 180 #[.val (.int x0), .val (.int x1), .val (.long x2), .second, .val (.int x3), .val (.int x4), .val (.int (2 : Int32)), .val (.ref l133), .val (.int (0 : Int32)), .val (.int (5 : Int32)), .val (.ref b138), .val (.int (Int32.ofNat pn)), .unset, .unset, .unset] [])) (fun _ zk => XS.icmpNo X165.here hx rfl (hb hby at_177) rfl (tlt ((by decide) : (2 : Int32) < (5 : Int32))).2.2.2 zk) ?_
    refine Go.st (T' := T165) (g' := (mkF m 182 #[.val (.int x0), .val (.int x1), .val (.long x2), .second, .val (.int x3), .val (.int x4), .val (.int (2 : Int32)), .val (.ref l133), .val (.int (0 : Int32)), .val (.int (5 : Int32)), .val (.ref b138), .val (.int (Int32.ofNat pn)), .unset, .unset, .unset] [(.ref b138)])) (fun _ zk => XS.aload X165.here hx rfl (hb hby at_180) rfl rfl zk) ?_
    refine Go.st (T' := T165) (g' := (mkF m 184 #[.val (.int x0), .val (.int x1), .val (.long x2), .second, .val (.int x3), .val (.int x4), .val (.int (2 : Int32)), .val (.ref l133), .val (.int (0 : Int32)), .val (.int (5 : Int32)), .val (.ref b138), .val (.int (Int32.ofNat pn)), .unset, .unset, .unset] [(.int (Int32.ofNat pn)), (.ref b138)])) (fun _ zk => XS.iload X165.here hx rfl (hb hby at_182) rfl zk) ?_
    refine Go.st (T' := T165) (g' := (mkF m 185 #[.val (.int x0), .val (.int x1), .val (.long x2), .second, .val (.int x3), .val (.int x4), .val (.int (2 : Int32)), .val (.ref l133), .val (.int (0 : Int32)), .val (.int (5 : Int32)), .val (.ref b138), .val (.int (Int32.ofNat pn)), .unset, .unset, .unset] [(.int (2 : Int32)), (.int (Int32.ofNat pn)), (.ref b138)])) (fun _ zk => XS.iconst X165.here hx rfl (hb hby at_184) zk) ?_
    refine Go.st (T' := T165) (g' := (mkF m 186 #[.val (.int x0), .val (.int x1), .val (.long x2), .second, .val (.int x3), .val (.int x4), .val (.int (2 : Int32)), .val (.ref l133), .val (.int (0 : Int32)), .val (.int (5 : Int32)), .val (.ref b138), .val (.int (Int32.ofNat pn)), .unset, .unset, .unset] [(.int ((Int32.ofNat pn) + (2 : Int32))), (.ref b138)])) (fun _ zk => XS.iadd X165.here hx rfl (hb hby at_185) rfl zk) ?_
    rw [show Int32.ofNat pn + (2 : Int32) = Int32.ofNat (pn + 1 + 1) from (Int32.ofNat_add pn 2).symm]
    refine Go.st (T' := T165) (g' := (mkF m 188 #[.val (.int x0), .val (.int x1), .val (.long x2), .second, .val (.int x3), .val (.int x4), .val (.int (2 : Int32)), .val (.ref l133), .val (.int (0 : Int32)), .val (.int (5 : Int32)), .val (.ref b138), .val (.int (Int32.ofNat pn)), .unset, .unset, .unset] [(.ref l133), (.int (Int32.ofNat (pn + 1 + 1))), (.ref b138)])) (fun _ zk => XS.aload X165.here hx rfl (hb hby at_186) rfl rfl zk) ?_
    refine Go.st (T' := T165) (g' := (mkF m 189 #[.val (.int x0), .val (.int x1), .val (.long x2), .second, .val (.int x3), .val (.int x4), .val (.int (2 : Int32)), .val (.ref l133), .val (.int (0 : Int32)), .val (.int (5 : Int32)), .val (.ref b138), .val (.int (Int32.ofNat pn)), .unset, .unset, .unset] [(.int (2 : Int32)), (.ref l133), (.int (Int32.ofNat (pn + 1 + 1))), (.ref b138)])) (fun _ zk => XS.iconst X165.here hx rfl (hb hby at_188) zk) ?_
    have xt166 : Ext h133 h165 := (xt160.thenW W165 (Nat.le_of_eq g138.symm))
    have f167 := SL.ext xt166
    have f169 := (f163.wr W165 (Nat.le_trans Z0 (Nat.le_trans E133.1 (Nat.le_of_eq g138.symm))))
    have f170 := (f164.wr W165)
    refine Go.callV (y := (⟨"java/lang/String", "charAt", "(I)C"⟩ : MethodName)) (z := (⟨"java/lang/String", "charAt", "(I)C"⟩ : MethodName)) (C := "java/lang/String") (a := l133) X165 hx hZ hown e165 (w28 hw) (w29 hw) (w31 hw) (w30 hw) (w1 hw) (w32 hw) (notFace_of_selects (args := #[]) (mvT hZ (w31 hw))) (by decide) f170 (argsL := [(.int (2 : Int32))]) (rest := [(.int (Int32.ofNat (pn + 1 + 1))), (.ref b138)]) (W := 2) (rm_charAtG l Z a0 hw [] l133 [(102 : Int32), (97 : Int32), (108 : Int32), (115 : Int32), (101 : Int32)] 2 zc fm h165 n0 (Nat.le_trans Z0 (Nat.le_trans (Nat.le_trans (Nat.le_trans (Nat.le_trans (Nat.le_trans (Nat.le_trans (Nat.le_trans (Nat.le_trans (Nat.le_trans (Nat.le_trans E133.1 E138.1) (Keep.of_wr W140).1) (Keep.of_wr W142).1) (Keep.of_wr W144).1) (Keep.of_wr W146).1) (Keep.of_wr W148).1) (Keep.of_wr W150).1) (Keep.of_wr W152).1) (Keep.of_wr W159).1) (Keep.of_wr W165).1)) f169 f167 (by decide) (by decide) CS hz FM rf) rfl (lenOf pd33 rfl) rfl (by rw [hml]; rfl) rfl (by show 2 * 0 + _ ≤ _; exact Nat.le_of_eq rfl) (by decide) (by decide) (by decide) (by decide) (hb hby at_189) ?_
    intro v168 T168 h168 L168 X168 e168 q168
    obtain ⟨hv168, Nf168, hh168⟩ := q168
    subst hv168
    have E168 : T168.heap = h165 := e168.trans hh168
    have N168 := Fr.app N165 Nf168
    show Go p.tables e below _ T168 (mkF m 192 #[.val (.int x0), .val (.int x1), .val (.long x2), .second, .val (.int x3), .val (.int x4), .val (.int (2 : Int32)), .val (.ref l133), .val (.int (0 : Int32)), .val (.int (5 : Int32)), .val (.ref b138), .val (.int (Int32.ofNat pn)), .unset, .unset, .unset] [(.int (((([(102 : Int32), (97 : Int32), (108 : Int32), (115 : Int32), (101 : Int32)] : List Int32).getD 2 0) &&& (255 : Int32)).toUInt32.toUInt16.toUInt32.toInt32)), (.int (Int32.ofNat (pn + 1 + 1))), (.ref b138)])
    rw [show (((([(102 : Int32), (97 : Int32), (108 : Int32), (115 : Int32), (101 : Int32)] : List Int32).getD 2 0) &&& (255 : Int32)).toUInt32.toUInt16.toUInt32.toInt32) = (108 : Int32) from by decide]
    obtain ⟨T171, h171, X171, e171, W171, V171, st171⟩ := stCV X168 hx hZ E168 V165 (j := (Int32.ofNat (pn + 1 + 1))) (i := (pn + 1 + 1)) ⟨own_ofn0 (by omega), own_oflt (n := 7) (by omega) (by omega)⟩ (own_clamp (by omega)) (by simp only [List.length_map, List.length_set, List.length_cons, List.length_nil]; omega) (g := (mkF m 192 #[.val (.int x0), .val (.int x1), .val (.long x2), .second, .val (.int x3), .val (.int x4), .val (.int (2 : Int32)), .val (.ref l133), .val (.int (0 : Int32)), .val (.int (5 : Int32)), .val (.ref b138), .val (.int (Int32.ofNat pn)), .unset, .unset, .unset] [(.int (108 : Int32)), (.int (Int32.ofNat (pn + 1 + 1))), (.ref b138)])) rfl rfl (hb hby at_192)
    rw [show nar .char (108 : Int32) = (108 : Int32) from by decide, ← List.map_set] at V171
    have N171 := Fr.snoc X171 N168 (Nat.le_trans Z0 (Nat.le_trans E133.1 (Nat.le_of_eq g138.symm)))
    refine Go.st (T' := T171) (g' := (mkF m 193 #[.val (.int x0), .val (.int x1), .val (.long x2), .second, .val (.int x3), .val (.int x4), .val (.int (2 : Int32)), .val (.ref l133), .val (.int (0 : Int32)), .val (.int (5 : Int32)), .val (.ref b138), .val (.int (Int32.ofNat pn)), .unset, .unset, .unset] [])) (fun _ zk => st171 _ zk) ?_
    refine Go.st (T' := T171) (g' := (mkF m 195 #[.val (.int x0), .val (.int x1), .val (.long x2), .second, .val (.int x3), .val (.int x4), .val (.int (2 : Int32)), .val (.ref l133), .val (.int (0 : Int32)), .val (.int (5 : Int32)), .val (.ref b138), .val (.int (Int32.ofNat pn)), .unset, .unset, .unset] [(.int (5 : Int32))])) (fun _ zk => XS.iload X171.here hx rfl (hb hby at_193) rfl zk) ?_
    refine Go.st (T' := T171) (g' := (mkF m 196 #[.val (.int x0), .val (.int x1), .val (.long x2), .second, .val (.int x3), .val (.int x4), .val (.int (2 : Int32)), .val (.ref l133), .val (.int (0 : Int32)), .val (.int (5 : Int32)), .val (.ref b138), .val (.int (Int32.ofNat pn)), .unset, .unset, .unset] [(.int (3 : Int32)), (.int (5 : Int32))])) (fun _ zk => XS.iconst X171.here hx rfl (hb hby at_195) zk) ?_
    refine Go.st (T' := T171) (g' := (mkF m 199 #[.val (.int x0), .val (.int x1), .val (.long x2), .second, .val (.int x3), .val (.int x4), .val (.int (2 : Int32)), .val (.ref l133), .val (.int (0 : Int32)), .val (.int (5 : Int32)), .val (.ref b138), .val (.int (Int32.ofNat pn)), .unset, .unset, .unset] [])) (fun _ zk => XS.icmpNo X171.here hx rfl (hb hby at_196) rfl (tlt ((by decide) : (3 : Int32) < (5 : Int32))).2.2.2 zk) ?_
    refine Go.st (T' := T171) (g' := (mkF m 201 #[.val (.int x0), .val (.int x1), .val (.long x2), .second, .val (.int x3), .val (.int x4), .val (.int (2 : Int32)), .val (.ref l133), .val (.int (0 : Int32)), .val (.int (5 : Int32)), .val (.ref b138), .val (.int (Int32.ofNat pn)), .unset, .unset, .unset] [(.ref b138)])) (fun _ zk => XS.aload X171.here hx rfl (hb hby at_199) rfl rfl zk) ?_
    refine Go.st (T' := T171) (g' := (mkF m 203 #[.val (.int x0), .val (.int x1), .val (.long x2), .second, .val (.int x3), .val (.int x4), .val (.int (2 : Int32)), .val (.ref l133), .val (.int (0 : Int32)), .val (.int (5 : Int32)), .val (.ref b138), .val (.int (Int32.ofNat pn)), .unset, .unset, .unset] [(.int (Int32.ofNat pn)), (.ref b138)])) (fun _ zk => XS.iload X171.here hx rfl (hb hby at_201) rfl zk) ?_
    refine Go.st (T' := T171) (g' := (mkF m 204 #[.val (.int x0), .val (.int x1), .val (.long x2), .second, .val (.int x3), .val (.int x4), .val (.int (2 : Int32)), .val (.ref l133), .val (.int (0 : Int32)), .val (.int (5 : Int32)), .val (.ref b138), .val (.int (Int32.ofNat pn)), .unset, .unset, .unset] [(.int (3 : Int32)), (.int (Int32.ofNat pn)), (.ref b138)])) (fun _ zk => XS.iconst X171.here hx rfl (hb hby at_203) zk) ?_
    refine Go.st (T' := T171) (g' := (mkF m 205 #[.val (.int x0), .val (.int x1), .val (.long x2), .second, .val (.int x3), .val (.int x4), .val (.int (2 : Int32)), .val (.ref l133), .val (.int (0 : Int32)), .val (.int (5 : Int32)), .val (.ref b138), .val (.int (Int32.ofNat pn)), .unset, .unset, .unset] [(.int ((Int32.ofNat pn) + (3 : Int32))), (.ref b138)])) (fun _ zk => XS.iadd X171.here hx rfl (hb hby at_204) rfl zk) ?_
    rw [show Int32.ofNat pn + (3 : Int32) = Int32.ofNat (pn + 1 + 1 + 1) from (Int32.ofNat_add pn 3).symm]
    refine Go.st (T' := T171) (g' := (mkF m 207 #[.val (.int x0), .val (.int x1), .val (.long x2), .second, .val (.int x3), .val (.int x4), .val (.int (2 : Int32)), .val (.ref l133), .val (.int (0 : Int32)), .val (.int (5 : Int32)), .val (.ref b138), .val (.int (Int32.ofNat pn)), .unset, .unset, .unset] [(.ref l133), (.int (Int32.ofNat (pn + 1 + 1 + 1))), (.ref b138)])) (fun _ zk => XS.aload X171.here hx rfl (hb hby at_205) rfl rfl zk) ?_
    refine Go.st (T' := T171) (g' := (mkF m 208 #[.val (.int x0), .val (.int x1), .val (.long x2), .second, .val (.int x3), .val (.int x4), .val (.int (2 : Int32)), .val (.ref l133), .val (.int (0 : Int32)), .val (.int (5 : Int32)), .val (.ref b138), .val (.int (Int32.ofNat pn)), .unset, .unset, .unset] [(.int (3 : Int32)), (.ref l133), (.int (Int32.ofNat (pn + 1 + 1 + 1))), (.ref b138)])) (fun _ zk => XS.iconst X171.here hx rfl (hb hby at_207) zk) ?_
    have xt172 : Ext h133 h171 := (xt166.thenW W171 (Nat.le_of_eq g138.symm))
    have f173 := SL.ext xt172
    have f175 := (f169.wr W171 (Nat.le_trans Z0 (Nat.le_trans E133.1 (Nat.le_of_eq g138.symm))))
    have f176 := (f170.wr W171)
    refine Go.callV (y := (⟨"java/lang/String", "charAt", "(I)C"⟩ : MethodName)) (z := (⟨"java/lang/String", "charAt", "(I)C"⟩ : MethodName)) (C := "java/lang/String") (a := l133) X171 hx hZ hown e171 (w28 hw) (w29 hw) (w31 hw) (w30 hw) (w1 hw) (w32 hw) (notFace_of_selects (args := #[]) (mvT hZ (w31 hw))) (by decide) f176 (argsL := [(.int (3 : Int32))]) (rest := [(.int (Int32.ofNat (pn + 1 + 1 + 1))), (.ref b138)]) (W := 2) (rm_charAtG l Z a0 hw [] l133 [(102 : Int32), (97 : Int32), (108 : Int32), (115 : Int32), (101 : Int32)] 3 zc fm h171 n0 (Nat.le_trans Z0 (Nat.le_trans (Nat.le_trans (Nat.le_trans (Nat.le_trans (Nat.le_trans (Nat.le_trans (Nat.le_trans (Nat.le_trans (Nat.le_trans (Nat.le_trans (Nat.le_trans E133.1 E138.1) (Keep.of_wr W140).1) (Keep.of_wr W142).1) (Keep.of_wr W144).1) (Keep.of_wr W146).1) (Keep.of_wr W148).1) (Keep.of_wr W150).1) (Keep.of_wr W152).1) (Keep.of_wr W159).1) (Keep.of_wr W165).1) (Keep.of_wr W171).1)) f175 f173 (by decide) (by decide) CS hz FM rf) rfl (lenOf pd33 rfl) rfl (by rw [hml]; rfl) rfl (by show 2 * 0 + _ ≤ _; exact Nat.le_of_eq rfl) (by decide) (by decide) (by decide) (by decide) (hb hby at_208) ?_
    intro v174 T174 h174 L174 X174 e174 q174
    obtain ⟨hv174, Nf174, hh174⟩ := q174
    subst hv174
    have E174 : T174.heap = h171 := e174.trans hh174
    have N174 := Fr.app N171 Nf174
    show Go p.tables e below _ T174 (mkF m 211 #[.val (.int x0), .val (.int x1), .val (.long x2), .second, .val (.int x3), .val (.int x4), .val (.int (2 : Int32)), .val (.ref l133), .val (.int (0 : Int32)), .val (.int (5 : Int32)), .val (.ref b138), .val (.int (Int32.ofNat pn)), .unset, .unset, .unset] [(.int (((([(102 : Int32), (97 : Int32), (108 : Int32), (115 : Int32), (101 : Int32)] : List Int32).getD 3 0) &&& (255 : Int32)).toUInt32.toUInt16.toUInt32.toInt32)), (.int (Int32.ofNat (pn + 1 + 1 + 1))), (.ref b138)])
    rw [show (((([(102 : Int32), (97 : Int32), (108 : Int32), (115 : Int32), (101 : Int32)] : List Int32).getD 3 0) &&& (255 : Int32)).toUInt32.toUInt16.toUInt32.toInt32) = (115 : Int32) from by decide]
    obtain ⟨T177, h177, X177, e177, W177, V177, st177⟩ := stCV X174 hx hZ E174 V171 (j := (Int32.ofNat (pn + 1 + 1 + 1))) (i := (pn + 1 + 1 + 1)) ⟨own_ofn0 (by omega), own_oflt (n := 7) (by omega) (by omega)⟩ (own_clamp (by omega)) (by simp only [List.length_map, List.length_set, List.length_cons, List.length_nil]; omega) (g := (mkF m 211 #[.val (.int x0), .val (.int x1), .val (.long x2), .second, .val (.int x3), .val (.int x4), .val (.int (2 : Int32)), .val (.ref l133), .val (.int (0 : Int32)), .val (.int (5 : Int32)), .val (.ref b138), .val (.int (Int32.ofNat pn)), .unset, .unset, .unset] [(.int (115 : Int32)), (.int (Int32.ofNat (pn + 1 + 1 + 1))), (.ref b138)])) rfl rfl (hb hby at_211)
    rw [show nar .char (115 : Int32) = (115 : Int32) from by decide, ← List.map_set] at V177
    have N177 := Fr.snoc X177 N174 (Nat.le_trans Z0 (Nat.le_trans E133.1 (Nat.le_of_eq g138.symm)))
    refine Go.st (T' := T177) (g' := (mkF m 212 #[.val (.int x0), .val (.int x1), .val (.long x2), .second, .val (.int x3), .val (.int x4), .val (.int (2 : Int32)), .val (.ref l133), .val (.int (0 : Int32)), .val (.int (5 : Int32)), .val (.ref b138), .val (.int (Int32.ofNat pn)), .unset, .unset, .unset] [])) (fun _ zk => st177 _ zk) ?_
    refine Go.st (T' := T177) (g' := (mkF m 214 #[.val (.int x0), .val (.int x1), .val (.long x2), .second, .val (.int x3), .val (.int x4), .val (.int (2 : Int32)), .val (.ref l133), .val (.int (0 : Int32)), .val (.int (5 : Int32)), .val (.ref b138), .val (.int (Int32.ofNat pn)), .unset, .unset, .unset] [(.int (5 : Int32))])) (fun _ zk => XS.iload X177.here hx rfl (hb hby at_212) rfl zk) ?_
    refine Go.st (T' := T177) (g' := (mkF m 215 #[.val (.int x0), .val (.int x1), .val (.long x2), .second, .val (.int x3), .val (.int x4), .val (.int (2 : Int32)), .val (.ref l133), .val (.int (0 : Int32)), .val (.int (5 : Int32)), .val (.ref b138), .val (.int (Int32.ofNat pn)), .unset, .unset, .unset] [(.int (4 : Int32)), (.int (5 : Int32))])) (fun _ zk => XS.iconst X177.here hx rfl (hb hby at_214) zk) ?_
    refine Go.st (T' := T177) (g' := (mkF m 218 #[.val (.int x0), .val (.int x1), .val (.long x2), .second, .val (.int x3), .val (.int x4), .val (.int (2 : Int32)), .val (.ref l133), .val (.int (0 : Int32)), .val (.int (5 : Int32)), .val (.ref b138), .val (.int (Int32.ofNat pn)), .unset, .unset, .unset] [])) (fun _ zk => XS.icmpNo X177.here hx rfl (hb hby at_215) rfl (tlt ((by decide) : (4 : Int32) < (5 : Int32))).2.2.2 zk) ?_
    refine Go.st (T' := T177) (g' := (mkF m 220 #[.val (.int x0), .val (.int x1), .val (.long x2), .second, .val (.int x3), .val (.int x4), .val (.int (2 : Int32)), .val (.ref l133), .val (.int (0 : Int32)), .val (.int (5 : Int32)), .val (.ref b138), .val (.int (Int32.ofNat pn)), .unset, .unset, .unset] [(.ref b138)])) (fun _ zk => XS.aload X177.here hx rfl (hb hby at_218) rfl rfl zk) ?_
    refine Go.st (T' := T177) (g' := (mkF m 222 #[.val (.int x0), .val (.int x1), .val (.long x2), .second, .val (.int x3), .val (.int x4), .val (.int (2 : Int32)), .val (.ref l133), .val (.int (0 : Int32)), .val (.int (5 : Int32)), .val (.ref b138), .val (.int (Int32.ofNat pn)), .unset, .unset, .unset] [(.int (Int32.ofNat pn)), (.ref b138)])) (fun _ zk => XS.iload X177.here hx rfl (hb hby at_220) rfl zk) ?_
    refine Go.st (T' := T177) (g' := (mkF m 223 #[.val (.int x0), .val (.int x1), .val (.long x2), .second, .val (.int x3), .val (.int x4), .val (.int (2 : Int32)), .val (.ref l133), .val (.int (0 : Int32)), .val (.int (5 : Int32)), .val (.ref b138), .val (.int (Int32.ofNat pn)), .unset, .unset, .unset] [(.int (4 : Int32)), (.int (Int32.ofNat pn)), (.ref b138)])) (fun _ zk => XS.iconst X177.here hx rfl (hb hby at_222) zk) ?_
    refine Go.st (T' := T177) (g' := (mkF m 224 #[.val (.int x0), .val (.int x1), .val (.long x2), .second, .val (.int x3), .val (.int x4), .val (.int (2 : Int32)), .val (.ref l133), .val (.int (0 : Int32)), .val (.int (5 : Int32)), .val (.ref b138), .val (.int (Int32.ofNat pn)), .unset, .unset, .unset] [(.int ((Int32.ofNat pn) + (4 : Int32))), (.ref b138)])) (fun _ zk => XS.iadd X177.here hx rfl (hb hby at_223) rfl zk) ?_
    rw [show Int32.ofNat pn + (4 : Int32) = Int32.ofNat (pn + 1 + 1 + 1 + 1) from (Int32.ofNat_add pn 4).symm]
    refine Go.st (T' := T177) (g' := (mkF m 226 #[.val (.int x0), .val (.int x1), .val (.long x2), .second, .val (.int x3), .val (.int x4), .val (.int (2 : Int32)), .val (.ref l133), .val (.int (0 : Int32)), .val (.int (5 : Int32)), .val (.ref b138), .val (.int (Int32.ofNat pn)), .unset, .unset, .unset] [(.ref l133), (.int (Int32.ofNat (pn + 1 + 1 + 1 + 1))), (.ref b138)])) (fun _ zk => XS.aload X177.here hx rfl (hb hby at_224) rfl rfl zk) ?_
    refine Go.st (T' := T177) (g' := (mkF m 227 #[.val (.int x0), .val (.int x1), .val (.long x2), .second, .val (.int x3), .val (.int x4), .val (.int (2 : Int32)), .val (.ref l133), .val (.int (0 : Int32)), .val (.int (5 : Int32)), .val (.ref b138), .val (.int (Int32.ofNat pn)), .unset, .unset, .unset] [(.int (4 : Int32)), (.ref l133), (.int (Int32.ofNat (pn + 1 + 1 + 1 + 1))), (.ref b138)])) (fun _ zk => XS.iconst X177.here hx rfl (hb hby at_226) zk) ?_
    have xt178 : Ext h133 h177 := (xt172.thenW W177 (Nat.le_of_eq g138.symm))
    have f179 := SL.ext xt178
    have f181 := (f175.wr W177 (Nat.le_trans Z0 (Nat.le_trans E133.1 (Nat.le_of_eq g138.symm))))
    have f182 := (f176.wr W177)
    refine Go.callV (y := (⟨"java/lang/String", "charAt", "(I)C"⟩ : MethodName)) (z := (⟨"java/lang/String", "charAt", "(I)C"⟩ : MethodName)) (C := "java/lang/String") (a := l133) X177 hx hZ hown e177 (w28 hw) (w29 hw) (w31 hw) (w30 hw) (w1 hw) (w32 hw) (notFace_of_selects (args := #[]) (mvT hZ (w31 hw))) (by decide) f182 (argsL := [(.int (4 : Int32))]) (rest := [(.int (Int32.ofNat (pn + 1 + 1 + 1 + 1))), (.ref b138)]) (W := 2) (rm_charAtG l Z a0 hw [] l133 [(102 : Int32), (97 : Int32), (108 : Int32), (115 : Int32), (101 : Int32)] 4 zc fm h177 n0 (Nat.le_trans Z0 (Nat.le_trans (Nat.le_trans (Nat.le_trans (Nat.le_trans (Nat.le_trans (Nat.le_trans (Nat.le_trans (Nat.le_trans (Nat.le_trans (Nat.le_trans (Nat.le_trans (Nat.le_trans E133.1 E138.1) (Keep.of_wr W140).1) (Keep.of_wr W142).1) (Keep.of_wr W144).1) (Keep.of_wr W146).1) (Keep.of_wr W148).1) (Keep.of_wr W150).1) (Keep.of_wr W152).1) (Keep.of_wr W159).1) (Keep.of_wr W165).1) (Keep.of_wr W171).1) (Keep.of_wr W177).1)) f181 f179 (by decide) (by decide) CS hz FM rf) rfl (lenOf pd33 rfl) rfl (by rw [hml]; rfl) rfl (by show 2 * 0 + _ ≤ _; exact Nat.le_of_eq rfl) (by decide) (by decide) (by decide) (by decide) (hb hby at_227) ?_
    intro v180 T180 h180 L180 X180 e180 q180
    obtain ⟨hv180, Nf180, hh180⟩ := q180
    subst hv180
    have E180 : T180.heap = h177 := e180.trans hh180
    have N180 := Fr.app N177 Nf180
    show Go p.tables e below _ T180 (mkF m 230 #[.val (.int x0), .val (.int x1), .val (.long x2), .second, .val (.int x3), .val (.int x4), .val (.int (2 : Int32)), .val (.ref l133), .val (.int (0 : Int32)), .val (.int (5 : Int32)), .val (.ref b138), .val (.int (Int32.ofNat pn)), .unset, .unset, .unset] [(.int (((([(102 : Int32), (97 : Int32), (108 : Int32), (115 : Int32), (101 : Int32)] : List Int32).getD 4 0) &&& (255 : Int32)).toUInt32.toUInt16.toUInt32.toInt32)), (.int (Int32.ofNat (pn + 1 + 1 + 1 + 1))), (.ref b138)])
    rw [show (((([(102 : Int32), (97 : Int32), (108 : Int32), (115 : Int32), (101 : Int32)] : List Int32).getD 4 0) &&& (255 : Int32)).toUInt32.toUInt16.toUInt32.toInt32) = (101 : Int32) from by decide]
    obtain ⟨T183, h183, X183, e183, W183, V183, st183⟩ := stCV X180 hx hZ E180 V177 (j := (Int32.ofNat (pn + 1 + 1 + 1 + 1))) (i := (pn + 1 + 1 + 1 + 1)) ⟨own_ofn0 (by omega), own_oflt (n := 7) (by omega) (by omega)⟩ (own_clamp (by omega)) (by simp only [List.length_map, List.length_set, List.length_cons, List.length_nil]; omega) (g := (mkF m 230 #[.val (.int x0), .val (.int x1), .val (.long x2), .second, .val (.int x3), .val (.int x4), .val (.int (2 : Int32)), .val (.ref l133), .val (.int (0 : Int32)), .val (.int (5 : Int32)), .val (.ref b138), .val (.int (Int32.ofNat pn)), .unset, .unset, .unset] [(.int (101 : Int32)), (.int (Int32.ofNat (pn + 1 + 1 + 1 + 1))), (.ref b138)])) rfl rfl (hb hby at_230)
    rw [show nar .char (101 : Int32) = (101 : Int32) from by decide, ← List.map_set] at V183
    have N183 := Fr.snoc X183 N180 (Nat.le_trans Z0 (Nat.le_trans E133.1 (Nat.le_of_eq g138.symm)))
    refine Go.st (T' := T183) (g' := (mkF m 231 #[.val (.int x0), .val (.int x1), .val (.long x2), .second, .val (.int x3), .val (.int x4), .val (.int (2 : Int32)), .val (.ref l133), .val (.int (0 : Int32)), .val (.int (5 : Int32)), .val (.ref b138), .val (.int (Int32.ofNat pn)), .unset, .unset, .unset] [])) (fun _ zk => st183 _ zk) ?_
    refine Go.st (T' := T183) (g' := (mkF m 233 #[.val (.int x0), .val (.int x1), .val (.long x2), .second, .val (.int x3), .val (.int x4), .val (.int (2 : Int32)), .val (.ref l133), .val (.int (0 : Int32)), .val (.int (5 : Int32)), .val (.ref b138), .val (.int (Int32.ofNat pn)), .unset, .unset, .unset] [(.int x3)])) (fun _ zk => XS.iload X183.here hx rfl (hb hby at_231) rfl zk) ?_
    refine Go.st (T' := T183) (g' := (mkF m 234 #[.val (.int x0), .val (.int x1), .val (.long x2), .second, .val (.int x3), .val (.int x4), .val (.int (2 : Int32)), .val (.ref l133), .val (.int (0 : Int32)), .val (.int (5 : Int32)), .val (.ref b138), .val (.int (Int32.ofNat pn)), .unset, .unset, .unset] [(.int (1 : Int32)), (.int x3)])) (fun _ zk => XS.iconst X183.here hx rfl (hb hby at_233) zk) ?_
    refine Go.st (T' := T183) (g' := (mkF m 235 #[.val (.int x0), .val (.int x1), .val (.long x2), .second, .val (.int x3), .val (.int x4), .val (.int (2 : Int32)), .val (.ref l133), .val (.int (0 : Int32)), .val (.int (5 : Int32)), .val (.ref b138), .val (.int (Int32.ofNat pn)), .unset, .unset, .unset] [(.int (x3 &&& (1 : Int32)))])) (fun _ zk => XS.iand X183.here hx rfl (hb hby at_234) rfl zk) ?_
    by_cases hc235 : (x3 &&& (1 : Int32)) = (0 : Int32)
    · refine Go.st (T' := T183) (g' := (mkF m 250 #[.val (.int x0), .val (.int x1), .val (.long x2), .second, .val (.int x3), .val (.int x4), .val (.int (2 : Int32)), .val (.ref l133), .val (.int (0 : Int32)), .val (.int (5 : Int32)), .val (.ref b138), .val (.int (Int32.ofNat pn)), .unset, .unset, .unset] [])) (fun _ zk => XS.ifYes X183.here hx rfl (pc0 := 235) (pc' := 250) rfl (hb hby at_235) rfl ((if0 _ _).trans (teq hc235).1) (by decide) (by decide) zk) ?_
      refine Go.st (T' := T183) (g' := (mkF m 252 #[.val (.int x0), .val (.int x1), .val (.long x2), .second, .val (.int x3), .val (.int x4), .val (.int (2 : Int32)), .val (.ref l133), .val (.int (0 : Int32)), .val (.int (5 : Int32)), .val (.ref b138), .val (.int (Int32.ofNat pn)), .unset, .unset, .unset] [(.ref l133)])) (fun _ zk => XS.aload X183.here hx rfl (hb hby at_250) rfl rfl zk) ?_
      refine Go.st (T' := T183) (g' := (mkF m 254 #[.val (.int x0), .val (.int x1), .val (.long x2), .second, .val (.int x3), .val (.int x4), .val (.int (2 : Int32)), .val (.ref l133), .val (.int (0 : Int32)), .val (.int (5 : Int32)), .val (.ref b138), .val (.int (Int32.ofNat pn)), .val (.ref l133), .unset, .unset] [])) (fun _ zk => XS.astore X183.here hx rfl (hb hby at_252) rfl rfl (l' := #[.val (.int x0), .val (.int x1), .val (.long x2), .second, .val (.int x3), .val (.int x4), .val (.int (2 : Int32)), .val (.ref l133), .val (.int (0 : Int32)), .val (.int (5 : Int32)), .val (.ref b138), .val (.int (Int32.ofNat pn)), .val (.ref l133), .unset, .unset]) rfl zk) ?_
      refine Go.st (T' := T183) (g' := (mkF m 256 #[.val (.int x0), .val (.int x1), .val (.long x2), .second, .val (.int x3), .val (.int x4), .val (.int (2 : Int32)), .val (.ref l133), .val (.int (0 : Int32)), .val (.int (5 : Int32)), .val (.ref b138), .val (.int (Int32.ofNat pn)), .val (.ref l133), .unset, .unset] [(.int x4)])) (fun _ zk => XS.iload X183.here hx rfl (hb hby at_254) rfl zk) ?_
      refine Go.st (T' := T183) (g' := (mkF m 259 #[.val (.int x0), .val (.int x1), .val (.long x2), .second, .val (.int x3), .val (.int x4), .val (.int (2 : Int32)), .val (.ref l133), .val (.int (0 : Int32)), .val (.int (5 : Int32)), .val (.ref b138), .val (.int (Int32.ofNat pn)), .val (.ref l133), .unset, .unset] [(.int (255 : Int32)), (.int x4)])) (fun _ zk => XS.sipush X183.here hx rfl (hb hby at_256) zk) ?_
      refine Go.st (T' := T183) (g' := (mkF m 260 #[.val (.int x0), .val (.int x1), .val (.long x2), .second, .val (.int x3), .val (.int x4), .val (.int (2 : Int32)), .val (.ref l133), .val (.int (0 : Int32)), .val (.int (5 : Int32)), .val (.ref b138), .val (.int (Int32.ofNat pn)), .val (.ref l133), .unset, .unset] [(.int (x4 &&& (255 : Int32)))])) (fun _ zk => XS.iand X183.here hx rfl (hb hby at_259) rfl zk) ?_
      refine Go.st (T' := T183) (g' := (mkF m 261 #[.val (.int x0), .val (.int x1), .val (.long x2), .second, .val (.int x3), .val (.int x4), .val (.int (2 : Int32)), .val (.ref l133), .val (.int (0 : Int32)), .val (.int (5 : Int32)), .val (.ref b138), .val (.int (Int32.ofNat pn)), .val (.ref l133), .unset, .unset] [(.int ((x4 &&& (255 : Int32)).toUInt32.toUInt16.toUInt32.toInt32))])) (fun _ zk => XS.i2c X183.here hx rfl (hb hby at_260) rfl zk) ?_
      have f185 := (f181.wr W183 (Nat.le_trans Z0 (Nat.le_trans E133.1 (Nat.le_of_eq g138.symm))))
      refine Go.callSt (y := (⟨"java/lang/String", "valueOf", "(C)Ljava/lang/String;"⟩ : MethodName)) X183 hx hZ hown e183 (w50 hw) (w51 hw) (w1 hw) (w52 hw) (by decide) (argsL := [(.int ((x4 &&& (255 : Int32)).toUInt32.toUInt16.toUInt32.toInt32))]) (rest := []) (W := 0) (rm_valueOfC l Z a0 hw [] ((x4 &&& (255 : Int32)).toUInt32.toUInt16.toUInt32.toInt32) zc h183 n0 (Nat.le_trans Z0 (Nat.le_trans (Nat.le_trans (Nat.le_trans (Nat.le_trans (Nat.le_trans (Nat.le_trans (Nat.le_trans (Nat.le_trans (Nat.le_trans (Nat.le_trans (Nat.le_trans (Nat.le_trans (Nat.le_trans E133.1 E138.1) (Keep.of_wr W140).1) (Keep.of_wr W142).1) (Keep.of_wr W144).1) (Keep.of_wr W146).1) (Keep.of_wr W148).1) (Keep.of_wr W150).1) (Keep.of_wr W152).1) (Keep.of_wr W159).1) (Keep.of_wr W165).1) (Keep.of_wr W171).1) (Keep.of_wr W177).1) (Keep.of_wr W183).1)) f185 (le255 (and255 x4)) CS hz) rfl (lenOf pd34 rfl) rfl (by rw [hml]; rfl) rfl (by show 2 * 0 + _ ≤ _; exact Nat.le_of_eq rfl) (by decide) (by decide) (by decide) (by decide) (hb hby at_261) ?_
      intro v184 T184 h184 L184 X184 e184 q184
      obtain ⟨a184, hv184, Nf184, E184, ge184, S184⟩ := q184
      subst hv184
      have N184 := Fr.app N183 Nf184
      show Go p.tables e below _ T184 (mkF m 264 #[.val (.int x0), .val (.int x1), .val (.long x2), .second, .val (.int x3), .val (.int x4), .val (.int (2 : Int32)), .val (.ref l133), .val (.int (0 : Int32)), .val (.int (5 : Int32)), .val (.ref b138), .val (.int (Int32.ofNat pn)), .val (.ref l133), .unset, .unset] [(.ref a184)])
      refine Go.st (T' := T184) (g' := (mkF m 266 #[.val (.int x0), .val (.int x1), .val (.long x2), .second, .val (.int x3), .val (.int x4), .val (.int (2 : Int32)), .val (.ref l133), .val (.int (0 : Int32)), .val (.int (5 : Int32)), .val (.ref b138), .val (.int (Int32.ofNat pn)), .val (.ref l133), .val (.ref a184), .unset] [])) (fun _ zk => XS.astore X184.here hx rfl (hb hby at_264) rfl rfl (l' := #[.val (.int x0), .val (.int x1), .val (.long x2), .second, .val (.int x3), .val (.int x4), .val (.int (2 : Int32)), .val (.ref l133), .val (.int (0 : Int32)), .val (.int (5 : Int32)), .val (.ref b138), .val (.int (Int32.ofNat pn)), .val (.ref l133), .val (.ref a184), .unset]) rfl zk) ?_
      refine Go.st (T' := T184) (g' := (mkF m 268 #[.val (.int x0), .val (.int x1), .val (.long x2), .second, .val (.int x3), .val (.int x4), .val (.int (2 : Int32)), .val (.ref l133), .val (.int (0 : Int32)), .val (.int (5 : Int32)), .val (.ref b138), .val (.int (Int32.ofNat pn)), .val (.ref l133), .val (.ref a184), .unset] [(.int x4)])) (fun _ zk => XS.iload X184.here hx rfl (hb hby at_266) rfl zk) ?_
      refine Go.st (T' := T184) (g' := (mkF m 270 #[.val (.int x0), .val (.int x1), .val (.long x2), .second, .val (.int x3), .val (.int x4), .val (.int (2 : Int32)), .val (.ref l133), .val (.int (0 : Int32)), .val (.int (5 : Int32)), .val (.ref b138), .val (.int (Int32.ofNat pn)), .val (.ref l133), .val (.ref a184), .unset] [(.int (8 : Int32)), (.int x4)])) (fun _ zk => XS.bipush X184.here hx rfl (hb hby at_268) zk) ?_
      refine Go.st (T' := T184) (g' := (mkF m 271 #[.val (.int x0), .val (.int x1), .val (.long x2), .second, .val (.int x3), .val (.int x4), .val (.int (2 : Int32)), .val (.ref l133), .val (.int (0 : Int32)), .val (.int (5 : Int32)), .val (.ref b138), .val (.int (Int32.ofNat pn)), .val (.ref l133), .val (.ref a184), .unset] [(.int ((x4.toUInt32 >>> ((8 : Int32) &&& 31).toUInt32).toInt32))])) (fun _ zk => XS.iushr X184.here hx rfl (hb hby at_270) rfl zk) ?_
      refine Go.st (T' := T184) (g' := (mkF m 274 #[.val (.int x0), .val (.int x1), .val (.long x2), .second, .val (.int x3), .val (.int x4), .val (.int (2 : Int32)), .val (.ref l133), .val (.int (0 : Int32)), .val (.int (5 : Int32)), .val (.ref b138), .val (.int (Int32.ofNat pn)), .val (.ref l133), .val (.ref a184), .unset] [(.int (255 : Int32)), (.int ((x4.toUInt32 >>> ((8 : Int32) &&& 31).toUInt32).toInt32))])) (fun _ zk => XS.sipush X184.here hx rfl (hb hby at_271) zk) ?_
      refine Go.st (T' := T184) (g' := (mkF m 275 #[.val (.int x0), .val (.int x1), .val (.long x2), .second, .val (.int x3), .val (.int x4), .val (.int (2 : Int32)), .val (.ref l133), .val (.int (0 : Int32)), .val (.int (5 : Int32)), .val (.ref b138), .val (.int (Int32.ofNat pn)), .val (.ref l133), .val (.ref a184), .unset] [(.int (((x4.toUInt32 >>> ((8 : Int32) &&& 31).toUInt32).toInt32) &&& (255 : Int32)))])) (fun _ zk => XS.iand X184.here hx rfl (hb hby at_274) rfl zk) ?_
      refine Go.st (T' := T184) (g' := (mkF m 276 #[.val (.int x0), .val (.int x1), .val (.long x2), .second, .val (.int x3), .val (.int x4), .val (.int (2 : Int32)), .val (.ref l133), .val (.int (0 : Int32)), .val (.int (5 : Int32)), .val (.ref b138), .val (.int (Int32.ofNat pn)), .val (.ref l133), .val (.ref a184), .unset] [(.int ((((x4.toUInt32 >>> ((8 : Int32) &&& 31).toUInt32).toInt32) &&& (255 : Int32)).toUInt32.toUInt16.toUInt32.toInt32))])) (fun _ zk => XS.i2c X184.here hx rfl (hb hby at_275) rfl zk) ?_
      have xt187 : Ext h183 h184 := E184
      have f188 := f185.ext xt187
      refine Go.callSt (y := (⟨"java/lang/String", "valueOf", "(C)Ljava/lang/String;"⟩ : MethodName)) X184 hx hZ hown e184 (w50 hw) (w51 hw) (w1 hw) (w52 hw) (by decide) (argsL := [(.int ((((x4.toUInt32 >>> ((8 : Int32) &&& 31).toUInt32).toInt32) &&& (255 : Int32)).toUInt32.toUInt16.toUInt32.toInt32))]) (rest := []) (W := 0) (rm_valueOfC l Z a0 hw [] ((((x4.toUInt32 >>> ((8 : Int32) &&& 31).toUInt32).toInt32) &&& (255 : Int32)).toUInt32.toUInt16.toUInt32.toInt32) zc h184 n0 (Nat.le_trans Z0 (Nat.le_trans (Nat.le_trans (Nat.le_trans (Nat.le_trans (Nat.le_trans (Nat.le_trans (Nat.le_trans (Nat.le_trans (Nat.le_trans (Nat.le_trans (Nat.le_trans (Nat.le_trans (Nat.le_trans (Nat.le_trans E133.1 E138.1) (Keep.of_wr W140).1) (Keep.of_wr W142).1) (Keep.of_wr W144).1) (Keep.of_wr W146).1) (Keep.of_wr W148).1) (Keep.of_wr W150).1) (Keep.of_wr W152).1) (Keep.of_wr W159).1) (Keep.of_wr W165).1) (Keep.of_wr W171).1) (Keep.of_wr W177).1) (Keep.of_wr W183).1) E184.1)) f188 (le255 (and255 ((x4.toUInt32 >>> ((8 : Int32) &&& 31).toUInt32).toInt32))) CS hz) rfl (lenOf pd34 rfl) rfl (by rw [hml]; rfl) rfl (by show 2 * 0 + _ ≤ _; exact Nat.le_of_eq rfl) (by decide) (by decide) (by decide) (by decide) (hb hby at_276) ?_
      intro v186 T186 h186 L186 X186 e186 q186
      obtain ⟨a186, hv186, Nf186, E186, ge186, S186⟩ := q186
      subst hv186
      have N186 := Fr.app N184 Nf186
      show Go p.tables e below _ T186 (mkF m 279 #[.val (.int x0), .val (.int x1), .val (.long x2), .second, .val (.int x3), .val (.int x4), .val (.int (2 : Int32)), .val (.ref l133), .val (.int (0 : Int32)), .val (.int (5 : Int32)), .val (.ref b138), .val (.int (Int32.ofNat pn)), .val (.ref l133), .val (.ref a184), .unset] [(.ref a186)])
      refine Go.st (T' := T186) (g' := (mkF m 281 #[.val (.int x0), .val (.int x1), .val (.long x2), .second, .val (.int x3), .val (.int x4), .val (.int (2 : Int32)), .val (.ref l133), .val (.int (0 : Int32)), .val (.int (5 : Int32)), .val (.ref b138), .val (.int (Int32.ofNat pn)), .val (.ref l133), .val (.ref a184), .val (.ref a186)] [])) (fun _ zk => XS.astore X186.here hx rfl (hb hby at_279) rfl rfl (l' := #[.val (.int x0), .val (.int x1), .val (.long x2), .second, .val (.int x3), .val (.int x4), .val (.int (2 : Int32)), .val (.ref l133), .val (.int (0 : Int32)), .val (.int (5 : Int32)), .val (.ref b138), .val (.int (Int32.ofNat pn)), .val (.ref l133), .val (.ref a184), .val (.ref a186)]) rfl zk) ?_
      refine Go.st (T' := T186) (g' := (mkF m 283 #[.val (.int x0), .val (.int x1), .val (.long x2), .second, .val (.int x3), .val (.int x4), .val (.int (2 : Int32)), .val (.ref l133), .val (.int (0 : Int32)), .val (.int (5 : Int32)), .val (.ref b138), .val (.int (Int32.ofNat pn)), .val (.ref l133), .val (.ref a184), .val (.ref a186)] [(.ref a184)])) (fun _ zk => XS.aload X186.here hx rfl (hb hby at_281) rfl rfl zk) ?_
      refine Go.st (T' := T186) (g' := (mkF m 285 #[.val (.int x0), .val (.int x1), .val (.long x2), .second, .val (.int x3), .val (.int x4), .val (.int (2 : Int32)), .val (.ref l133), .val (.int (0 : Int32)), .val (.int (5 : Int32)), .val (.ref b138), .val (.int (Int32.ofNat pn)), .val (.ref l133), .val (.ref a184), .val (.ref a186)] [(.ref a186), (.ref a184)])) (fun _ zk => XS.aload X186.here hx rfl (hb hby at_283) rfl rfl zk) ?_
      refine Go.st (T' := T186) (g' := (mkF m 287 #[.val (.int x0), .val (.int x1), .val (.long x2), .second, .val (.int x3), .val (.int x4), .val (.int (2 : Int32)), .val (.ref l133), .val (.int (0 : Int32)), .val (.int (5 : Int32)), .val (.ref b138), .val (.int (Int32.ofNat pn)), .val (.ref l133), .val (.ref a184), .val (.ref a186)] [(.ref l133), (.ref a186), (.ref a184)])) (fun _ zk => XS.aload X186.here hx rfl (hb hby at_285) rfl rfl zk) ?_
      have xt189 : Ext h133 h186 := (((xt178.thenW W183 (Nat.le_of_eq g138.symm)).tr E184).tr E186)
      have f190 := SL.ext xt189
      have xt192 : Ext h184 h186 := E186
      have f193 := f188.ext xt192
      have cr194 := chrE ca134 xt189
      refine Go.callStS (y := (⟨"com/example/tokenweave/tokenweave/engine/BpmnReader", "xmlBoolean", "(Ljava/lang/String;Ljava/lang/String;Ljava/lang/String;)Z"⟩ : MethodName)) X186 hx hZ hown e186 hEL cr194.1 hS (Nat.le_trans hk133 (Nat.le_trans (Nat.le_trans (Nat.le_trans (Nat.le_trans (Nat.le_trans (Nat.le_trans (Nat.le_trans (Nat.le_trans (Nat.le_trans (Nat.le_trans (Nat.le_trans (Nat.le_trans (Nat.le_trans (Nat.le_trans E138.1 (Keep.of_wr W140).1) (Keep.of_wr W142).1) (Keep.of_wr W144).1) (Keep.of_wr W146).1) (Keep.of_wr W148).1) (Keep.of_wr W150).1) (Keep.of_wr W152).1) (Keep.of_wr W159).1) (Keep.of_wr W165).1) (Keep.of_wr W171).1) (Keep.of_wr W177).1) (Keep.of_wr W183).1) E184.1) E186.1)) (w67 hw) (w68 hw) (w69 hw) (w70 hw) (by decide) (argsL := [(.ref a184), (.ref a186), (.ref l133)]) (rest := []) (W := 0) (rm_xmlBool l Z a0 hw [] a184 a186 l133 [(102 : Int32), (97 : Int32), (108 : Int32), (115 : Int32), (101 : Int32)] [(102 : Int32), (97 : Int32), (108 : Int32), (115 : Int32), (101 : Int32)] 0 5 zc ci dA kA h186 n0 (Nat.le_trans Z0 (Nat.le_trans (Nat.le_trans (Nat.le_trans (Nat.le_trans (Nat.le_trans (Nat.le_trans (Nat.le_trans (Nat.le_trans (Nat.le_trans (Nat.le_trans (Nat.le_trans (Nat.le_trans (Nat.le_trans (Nat.le_trans (Nat.le_trans E133.1 E138.1) (Keep.of_wr W140).1) (Keep.of_wr W142).1) (Keep.of_wr W144).1) (Keep.of_wr W146).1) (Keep.of_wr W148).1) (Keep.of_wr W150).1) (Keep.of_wr W152).1) (Keep.of_wr W159).1) (Keep.of_wr W165).1) (Keep.of_wr W171).1) (Keep.of_wr W177).1) (Keep.of_wr W183).1) E184.1) E186.1)) f193 f190 (by decide) (by decide) (by decide) (by decide) (fun i q => absurd q (Nat.not_lt_zero _)) (by unfold WS; decide +kernel) (fun i q1 q2 => absurd q2 (Nat.not_lt_of_le q1)) (by unfold WS; decide +kernel) rfl (Or.inr (Or.inr (Or.inl rfl))) CS hz SI EI SA FA) all0 rfl (lenOf pd35 rfl) rfl (by rw [hml]; rfl) rfl (by show 2 * 0 + _ ≤ _; exact Nat.le_of_eq rfl) (by decide) (by decide) (by decide) (by decide) (hb hby at_287) ?_
      intro v191 T191 h191 L191 X191 e191 q191 hS hZ hown cr191
      obtain ⟨rx, hv191, hcase, Nf191, E191⟩ := q191
      subst hv191
      have N191 := Fr.app N186 Nf191
      have hrx : rx = (0 : Int32) := by
        rcases hcase with z | z
        · exact absurd z.2 (by decide)
        · exact z.1
      have ca195 := cr194.trans cr191
      show Go p.tables e below _ T191 (mkF m 290 #[.val (.int x0), .val (.int x1), .val (.long x2), .second, .val (.int x3), .val (.int x4), .val (.int (2 : Int32)), .val (.ref l133), .val (.int (0 : Int32)), .val (.int (5 : Int32)), .val (.ref b138), .val (.int (Int32.ofNat pn)), .val (.ref l133), .val (.ref a184), .val (.ref a186)] [(.int rx)])
      refine Go.st (T' := T191) (g' := (mkF m 292 #[.val (.int x0), .val (.int x1), .val (.long x2), .second, .val (.int x3), .val (.int x4), .val (.int (2 : Int32)), .val (.ref l133), .val (.int (0 : Int32)), .val (.int (5 : Int32)), .val (.ref b138), .val (.int (Int32.ofNat pn)), .val (.ref l133), .val (.ref a184), .val (.ref a186)] [(.int (0 : Int32)), (.int rx)])) (fun _ zk => XS.iload X191.here hx rfl (hb hby at_290) rfl zk) ?_
      refine Go.st (T' := T191) (g' := (mkF m 295 #[.val (.int x0), .val (.int x1), .val (.long x2), .second, .val (.int x3), .val (.int x4), .val (.int (2 : Int32)), .val (.ref l133), .val (.int (0 : Int32)), .val (.int (5 : Int32)), .val (.ref b138), .val (.int (Int32.ofNat pn)), .val (.ref l133), .val (.ref a184), .val (.ref a186)] [])) (fun _ zk => XS.icmpNo X191.here hx rfl (hb hby at_292) rfl (teq (hrx : rx = (0 : Int32))).2 zk) ?_
      refine Go.st (T' := T191) (g' := (mkF m 296 #[.val (.int x0), .val (.int x1), .val (.long x2), .second, .val (.int x3), .val (.int x4), .val (.int (2 : Int32)), .val (.ref l133), .val (.int (0 : Int32)), .val (.int (5 : Int32)), .val (.ref b138), .val (.int (Int32.ofNat pn)), .val (.ref l133), .val (.ref a184), .val (.ref a186)] [(.int (1 : Int32))])) (fun _ zk => XS.iconst X191.here hx rfl (hb hby at_295) zk) ?_
      refine Go.st (T' := T191) (g' := (mkF m 300 #[.val (.int x0), .val (.int x1), .val (.long x2), .second, .val (.int x3), .val (.int x4), .val (.int (2 : Int32)), .val (.ref l133), .val (.int (0 : Int32)), .val (.int (5 : Int32)), .val (.ref b138), .val (.int (Int32.ofNat pn)), .val (.ref l133), .val (.ref a184), .val (.ref a186)] [(.int (1 : Int32))])) (fun _ zk => XS.goto X191.here hx rfl (pc0 := 296) (pc' := 300) rfl (hb hby at_296) (by decide) (by decide) zk) ?_
      refine Go.retNS X191 hx hlk hS (Nat.le_refl _) ca195 hZ hEL hret rfl (by simp) (hb hby at_300) (by decide) (by decide) e191 ?_
      exact ⟨rfl, N191⟩
    · refine Go.st (T' := T183) (g' := (mkF m 238 #[.val (.int x0), .val (.int x1), .val (.long x2), .second, .val (.int x3), .val (.int x4), .val (.int (2 : Int32)), .val (.ref l133), .val (.int (0 : Int32)), .val (.int (5 : Int32)), .val (.ref b138), .val (.int (Int32.ofNat pn)), .unset, .unset, .unset] [])) (fun _ zk => XS.ifNo X183.here hx rfl (hb hby at_235) rfl ((if0 _ _).trans (feq hc235).1) zk) ?_
      obtain ⟨T196, h196, X196, e196, E196, A196, D196, -, st196⟩ := newO X183 hx hZ hown (w108 hw) (w2 hw) (w1 hw) e183 (g := (mkF m 238 #[.val (.int x0), .val (.int x1), .val (.long x2), .second, .val (.int x3), .val (.int x4), .val (.int (2 : Int32)), .val (.ref l133), .val (.int (0 : Int32)), .val (.int (5 : Int32)), .val (.ref b138), .val (.int (Int32.ofNat pn)), .unset, .unset, .unset] [])) rfl (hb hby at_238) (by decide) (by decide)
      obtain ⟨b196, g196⟩ : ∃ z, z = h183.size := ⟨_, rfl⟩
      rw [← g196] at A196 D196 st196
      have F196_value : Fld Z h196 b196 "java/lang/String" "value" "[B" .null := D196 (Or.inr (w4 hw)) (ty := (.array .byte)) (by decide)
      have F196_coder : Fld Z h196 b196 "java/lang/String" "coder" "B" (.int (0 : Int32)) := D196 (Or.inr (w5 hw)) (ty := .byte) (by decide)
      refine Go.st (T' := T196) (g' := (mkF m 241 #[.val (.int x0), .val (.int x1), .val (.long x2), .second, .val (.int x3), .val (.int x4), .val (.int (2 : Int32)), .val (.ref l133), .val (.int (0 : Int32)), .val (.int (5 : Int32)), .val (.ref b138), .val (.int (Int32.ofNat pn)), .unset, .unset, .unset] [(.ref b196)])) (fun _ zk => st196 _ zk) ?_
      refine Go.st (T' := T196) (g' := (mkF m 242 #[.val (.int x0), .val (.int x1), .val (.long x2), .second, .val (.int x3), .val (.int x4), .val (.int (2 : Int32)), .val (.ref l133), .val (.int (0 : Int32)), .val (.int (5 : Int32)), .val (.ref b138), .val (.int (Int32.ofNat pn)), .unset, .unset, .unset] [(.ref b196), (.ref b196)])) (fun _ zk => XS.dup X196.here hx rfl (hb hby at_241) rfl rfl zk) ?_
      refine Go.st (T' := T196) (g' := (mkF m 244 #[.val (.int x0), .val (.int x1), .val (.long x2), .second, .val (.int x3), .val (.int x4), .val (.int (2 : Int32)), .val (.ref l133), .val (.int (0 : Int32)), .val (.int (5 : Int32)), .val (.ref b138), .val (.int (Int32.ofNat pn)), .unset, .unset, .unset] [(.ref b138), (.ref b196), (.ref b196)])) (fun _ zk => XS.aload X196.here hx rfl (hb hby at_242) rfl rfl zk) ?_
      have xt197 : Ext h183 h196 := E196
      have f198 := V183.ext xt197
      have f200 := ((f181.wr W183 (Nat.le_trans Z0 (Nat.le_trans E133.1 (Nat.le_of_eq g138.symm)))).ext E196)
      refine Go.callSp (y := (⟨"java/lang/String", "<init>", "([C)V"⟩ : MethodName)) (a := b196) X196 hx hZ hown e196 rfl (w109 hw) (w110 hw) (w1 hw) (w111 hw) (by decide) (argsL := [(.ref b138)]) (rest := [(.ref b196)]) (W := 1) (rm_init1L l Z a0 hw [] b196 b138 k138 (putAt [sp0, sp1, sp2, sp3, sp4, sp5, sp6] pn [(102 : Int32), (97 : Int32), (108 : Int32), (115 : Int32), (101 : Int32)]) 7 zc h196 n0 (Nat.le_trans Z0 (Nat.le_trans (Nat.le_trans (Nat.le_trans (Nat.le_trans (Nat.le_trans (Nat.le_trans (Nat.le_trans (Nat.le_trans (Nat.le_trans (Nat.le_trans (Nat.le_trans (Nat.le_trans (Nat.le_trans (Nat.le_trans E133.1 E138.1) (Keep.of_wr W140).1) (Keep.of_wr W142).1) (Keep.of_wr W144).1) (Keep.of_wr W146).1) (Keep.of_wr W148).1) (Keep.of_wr W150).1) (Keep.of_wr W152).1) (Keep.of_wr W159).1) (Keep.of_wr W165).1) (Keep.of_wr W171).1) (Keep.of_wr W177).1) (Keep.of_wr W183).1) E196.1)) f200 A196 (Nat.le_trans Z0 (Nat.le_trans (Nat.le_trans (Nat.le_trans (Nat.le_trans (Nat.le_trans (Nat.le_trans (Nat.le_trans (Nat.le_trans (Nat.le_trans (Nat.le_trans (Nat.le_trans (Nat.le_trans (Nat.le_trans (Nat.le_trans E133.1 E138.1) (Keep.of_wr W140).1) (Keep.of_wr W142).1) (Keep.of_wr W144).1) (Keep.of_wr W146).1) (Keep.of_wr W148).1) (Keep.of_wr W150).1) (Keep.of_wr W152).1) (Keep.of_wr W159).1) (Keep.of_wr W165).1) (Keep.of_wr W171).1) (Keep.of_wr W177).1) (Keep.of_wr W183).1) (Nat.le_of_eq g196.symm))) F196_coder F196_value f198 (by decide) (putAt_len _ _ _) (by decide) (by decide) (own_bufle rfl hwl own_tok2 (by show pn + 5 ≤ 7; omega)) CS hz) rfl (lenOf pd36 rfl) rfl (by rw [hml]; rfl) rfl (by show 2 * 0 + _ ≤ _; exact Nat.le_of_eq rfl) (by decide) (by decide) (by decide) (by decide) (hb hby at_244) ?_
      intro v199 T199 h199 L199 X199 e199 q199
      obtain ⟨hv199, Nf199, K199, xs, hx1, hx2, SN⟩ := q199
      subst hv199
      have N199 := Fr.app N183 Nf199
      show Go p.tables e below _ T199 (mkF m 247 #[.val (.int x0), .val (.int x1), .val (.long x2), .second, .val (.int x3), .val (.int x4), .val (.int (2 : Int32)), .val (.ref l133), .val (.int (0 : Int32)), .val (.int (5 : Int32)), .val (.ref b138), .val (.int (Int32.ofNat pn)), .unset, .unset, .unset] [(.ref b196)])
      have hbuf := own_buf (p := pn) rfl hwl own_tok2 (by decide) (by show pn + 5 ≤ 7; omega) hx1 hx2
      refine Go.st (T' := T199) (g' := (mkF m 252 #[.val (.int x0), .val (.int x1), .val (.long x2), .second, .val (.int x3), .val (.int x4), .val (.int (2 : Int32)), .val (.ref l133), .val (.int (0 : Int32)), .val (.int (5 : Int32)), .val (.ref b138), .val (.int (Int32.ofNat pn)), .unset, .unset, .unset] [(.ref b196)])) (fun _ zk => XS.goto X199.here hx rfl (pc0 := 247) (pc' := 252) rfl (hb hby at_247) (by decide) (by decide) zk) ?_
      refine Go.st (T' := T199) (g' := (mkF m 254 #[.val (.int x0), .val (.int x1), .val (.long x2), .second, .val (.int x3), .val (.int x4), .val (.int (2 : Int32)), .val (.ref l133), .val (.int (0 : Int32)), .val (.int (5 : Int32)), .val (.ref b138), .val (.int (Int32.ofNat pn)), .val (.ref b196), .unset, .unset] [])) (fun _ zk => XS.astore X199.here hx rfl (hb hby at_252) rfl rfl (l' := #[.val (.int x0), .val (.int x1), .val (.long x2), .second, .val (.int x3), .val (.int x4), .val (.int (2 : Int32)), .val (.ref l133), .val (.int (0 : Int32)), .val (.int (5 : Int32)), .val (.ref b138), .val (.int (Int32.ofNat pn)), .val (.ref b196), .unset, .unset]) rfl zk) ?_
      refine Go.st (T' := T199) (g' := (mkF m 256 #[.val (.int x0), .val (.int x1), .val (.long x2), .second, .val (.int x3), .val (.int x4), .val (.int (2 : Int32)), .val (.ref l133), .val (.int (0 : Int32)), .val (.int (5 : Int32)), .val (.ref b138), .val (.int (Int32.ofNat pn)), .val (.ref b196), .unset, .unset] [(.int x4)])) (fun _ zk => XS.iload X199.here hx rfl (hb hby at_254) rfl zk) ?_
      refine Go.st (T' := T199) (g' := (mkF m 259 #[.val (.int x0), .val (.int x1), .val (.long x2), .second, .val (.int x3), .val (.int x4), .val (.int (2 : Int32)), .val (.ref l133), .val (.int (0 : Int32)), .val (.int (5 : Int32)), .val (.ref b138), .val (.int (Int32.ofNat pn)), .val (.ref b196), .unset, .unset] [(.int (255 : Int32)), (.int x4)])) (fun _ zk => XS.sipush X199.here hx rfl (hb hby at_256) zk) ?_
      refine Go.st (T' := T199) (g' := (mkF m 260 #[.val (.int x0), .val (.int x1), .val (.long x2), .second, .val (.int x3), .val (.int x4), .val (.int (2 : Int32)), .val (.ref l133), .val (.int (0 : Int32)), .val (.int (5 : Int32)), .val (.ref b138), .val (.int (Int32.ofNat pn)), .val (.ref b196), .unset, .unset] [(.int (x4 &&& (255 : Int32)))])) (fun _ zk => XS.iand X199.here hx rfl (hb hby at_259) rfl zk) ?_
      refine Go.st (T' := T199) (g' := (mkF m 261 #[.val (.int x0), .val (.int x1), .val (.long x2), .second, .val (.int x3), .val (.int x4), .val (.int (2 : Int32)), .val (.ref l133), .val (.int (0 : Int32)), .val (.int (5 : Int32)), .val (.ref b138), .val (.int (Int32.ofNat pn)), .val (.ref b196), .unset, .unset] [(.int ((x4 &&& (255 : Int32)).toUInt32.toUInt16.toUInt32.toInt32))])) (fun _ zk => XS.i2c X199.here hx rfl (hb hby at_260) rfl zk) ?_
      have f202 := (f200.keep K199 (allS (Nat.le_trans Z0 (Nat.le_trans (Nat.le_trans (Nat.le_trans (Nat.le_trans (Nat.le_trans (Nat.le_trans (Nat.le_trans (Nat.le_trans (Nat.le_trans (Nat.le_trans (Nat.le_trans (Nat.le_trans (Nat.le_trans (Nat.le_trans E133.1 E138.1) (Keep.of_wr W140).1) (Keep.of_wr W142).1) (Keep.of_wr W144).1) (Keep.of_wr W146).1) (Keep.of_wr W148).1) (Keep.of_wr W150).1) (Keep.of_wr W152).1) (Keep.of_wr W159).1) (Keep.of_wr W165).1) (Keep.of_wr W171).1) (Keep.of_wr W177).1) (Keep.of_wr W183).1) (Nat.le_of_eq g196.symm))) all0))
      refine Go.callSt (y := (⟨"java/lang/String", "valueOf", "(C)Ljava/lang/String;"⟩ : MethodName)) X199 hx hZ hown e199 (w50 hw) (w51 hw) (w1 hw) (w52 hw) (by decide) (argsL := [(.int ((x4 &&& (255 : Int32)).toUInt32.toUInt16.toUInt32.toInt32))]) (rest := []) (W := 0) (rm_valueOfC l Z a0 hw [] ((x4 &&& (255 : Int32)).toUInt32.toUInt16.toUInt32.toInt32) zc h199 n0 (Nat.le_trans Z0 (Nat.le_trans (Nat.le_trans (Nat.le_trans (Nat.le_trans (Nat.le_trans (Nat.le_trans (Nat.le_trans (Nat.le_trans (Nat.le_trans (Nat.le_trans (Nat.le_trans (Nat.le_trans (Nat.le_trans (Nat.le_trans (Nat.le_trans E133.1 E138.1) (Keep.of_wr W140).1) (Keep.of_wr W142).1) (Keep.of_wr W144).1) (Keep.of_wr W146).1) (Keep.of_wr W148).1) (Keep.of_wr W150).1) (Keep.of_wr W152).1) (Keep.of_wr W159).1) (Keep.of_wr W165).1) (Keep.of_wr W171).1) (Keep.of_wr W177).1) (Keep.of_wr W183).1) E196.1) K199.1)) f202 (le255 (and255 x4)) CS hz) rfl (lenOf pd34 rfl) rfl (by rw [hml]; rfl) rfl (by show 2 * 0 + _ ≤ _; exact Nat.le_of_eq rfl) (by decide) (by decide) (by decide) (by decide) (hb hby at_261) ?_
      intro v201 T201 h201 L201 X201 e201 q201
      obtain ⟨a201, hv201, Nf201, E201, ge201, S201⟩ := q201
      subst hv201
      have N201 := Fr.app N199 Nf201
      show Go p.tables e below _ T201 (mkF m 264 #[.val (.int x0), .val (.int x1), .val (.long x2), .second, .val (.int x3), .val (.int x4), .val (.int (2 : Int32)), .val (.ref l133), .val (.int (0 : Int32)), .val (.int (5 : Int32)), .val (.ref b138), .val (.int (Int32.ofNat pn)), .val (.ref b196), .unset, .unset] [(.ref a201)])
      refine Go.st (T' := T201) (g' := (mkF m 266 #[.val (.int x0), .val (.int x1), .val (.long x2), .second, .val (.int x3), .val (.int x4), .val (.int (2 : Int32)), .val (.ref l133), .val (.int (0 : Int32)), .val (.int (5 : Int32)), .val (.ref b138), .val (.int (Int32.ofNat pn)), .val (.ref b196), .val (.ref a201), .unset] [])) (fun _ zk => XS.astore X201.here hx rfl (hb hby at_264) rfl rfl (l' := #[.val (.int x0), .val (.int x1), .val (.long x2), .second, .val (.int x3), .val (.int x4), .val (.int (2 : Int32)), .val (.ref l133), .val (.int (0 : Int32)), .val (.int (5 : Int32)), .val (.ref b138), .val (.int (Int32.ofNat pn)), .val (.ref b196), .val (.ref a201), .unset]) rfl zk) ?_
      refine Go.st (T' := T201) (g' := (mkF m 268 #[.val (.int x0), .val (.int x1), .val (.long x2), .second, .val (.int x3), .val (.int x4), .val (.int (2 : Int32)), .val (.ref l133), .val (.int (0 : Int32)), .val (.int (5 : Int32)), .val (.ref b138), .val (.int (Int32.ofNat pn)), .val (.ref b196), .val (.ref a201), .unset] [(.int x4)])) (fun _ zk => XS.iload X201.here hx rfl (hb hby at_266) rfl zk) ?_
      refine Go.st (T' := T201) (g' := (mkF m 270 #[.val (.int x0), .val (.int x1), .val (.long x2), .second, .val (.int x3), .val (.int x4), .val (.int (2 : Int32)), .val (.ref l133), .val (.int (0 : Int32)), .val (.int (5 : Int32)), .val (.ref b138), .val (.int (Int32.ofNat pn)), .val (.ref b196), .val (.ref a201), .unset] [(.int (8 : Int32)), (.int x4)])) (fun _ zk => XS.bipush X201.here hx rfl (hb hby at_268) zk) ?_
      refine Go.st (T' := T201) (g' := (mkF m 271 #[.val (.int x0), .val (.int x1), .val (.long x2), .second, .val (.int x3), .val (.int x4), .val (.int (2 : Int32)), .val (.ref l133), .val (.int (0 : Int32)), .val (.int (5 : Int32)), .val (.ref b138), .val (.int (Int32.ofNat pn)), .val (.ref b196), .val (.ref a201), .unset] [(.int ((x4.toUInt32 >>> ((8 : Int32) &&& 31).toUInt32).toInt32))])) (fun _ zk => XS.iushr X201.here hx rfl (hb hby at_270) rfl zk) ?_
      refine Go.st (T' := T201) (g' := (mkF m 274 #[.val (.int x0), .val (.int x1), .val (.long x2), .second, .val (.int x3), .val (.int x4), .val (.int (2 : Int32)), .val (.ref l133), .val (.int (0 : Int32)), .val (.int (5 : Int32)), .val (.ref b138), .val (.int (Int32.ofNat pn)), .val (.ref b196), .val (.ref a201), .unset] [(.int (255 : Int32)), (.int ((x4.toUInt32 >>> ((8 : Int32) &&& 31).toUInt32).toInt32))])) (fun _ zk => XS.sipush X201.here hx rfl (hb hby at_271) zk) ?_
      refine Go.st (T' := T201) (g' := (mkF m 275 #[.val (.int x0), .val (.int x1), .val (.long x2), .second, .val (.int x3), .val (.int x4), .val (.int (2 : Int32)), .val (.ref l133), .val (.int (0 : Int32)), .val (.int (5 : Int32)), .val (.ref b138), .val (.int (Int32.ofNat pn)), .val (.ref b196), .val (.ref a201), .unset] [(.int (((x4.toUInt32 >>> ((8 : Int32) &&& 31).toUInt32).toInt32) &&& (255 : Int32)))])) (fun _ zk => XS.iand X201.here hx rfl (hb hby at_274) rfl zk) ?_
      refine Go.st (T' := T201) (g' := (mkF m 276 #[.val (.int x0), .val (.int x1), .val (.long x2), .second, .val (.int x3), .val (.int x4), .val (.int (2 : Int32)), .val (.ref l133), .val (.int (0 : Int32)), .val (.int (5 : Int32)), .val (.ref b138), .val (.int (Int32.ofNat pn)), .val (.ref b196), .val (.ref a201), .unset] [(.int ((((x4.toUInt32 >>> ((8 : Int32) &&& 31).toUInt32).toInt32) &&& (255 : Int32)).toUInt32.toUInt16.toUInt32.toInt32))])) (fun _ zk => XS.i2c X201.here hx rfl (hb hby at_275) rfl zk) ?_
      have xt204 : Ext h199 h201 := E201
      have f205 := f202.ext xt204
      refine Go.callSt (y := (⟨"java/lang/String", "valueOf", "(C)Ljava/lang/String;"⟩ : MethodName)) X201 hx hZ hown e201 (w50 hw) (w51 hw) (w1 hw) (w52 hw) (by decide) (argsL := [(.int ((((x4.toUInt32 >>> ((8 : Int32) &&& 31).toUInt32).toInt32) &&& (255 : Int32)).toUInt32.toUInt16.toUInt32.toInt32))]) (rest := []) (W := 0) (rm_valueOfC l Z a0 hw [] ((((x4.toUInt32 >>> ((8 : Int32) &&& 31).toUInt32).toInt32) &&& (255 : Int32)).toUInt32.toUInt16.toUInt32.toInt32) zc h201 n0 (Nat.le_trans Z0 (Nat.le_trans (Nat.le_trans (Nat.le_trans (Nat.le_trans (Nat.le_trans (Nat.le_trans (Nat.le_trans (Nat.le_trans (Nat.le_trans (Nat.le_trans (Nat.le_trans (Nat.le_trans (Nat.le_trans (Nat.le_trans (Nat.le_trans (Nat.le_trans E133.1 E138.1) (Keep.of_wr W140).1) (Keep.of_wr W142).1) (Keep.of_wr W144).1) (Keep.of_wr W146).1) (Keep.of_wr W148).1) (Keep.of_wr W150).1) (Keep.of_wr W152).1) (Keep.of_wr W159).1) (Keep.of_wr W165).1) (Keep.of_wr W171).1) (Keep.of_wr W177).1) (Keep.of_wr W183).1) E196.1) K199.1) E201.1)) f205 (le255 (and255 ((x4.toUInt32 >>> ((8 : Int32) &&& 31).toUInt32).toInt32))) CS hz) rfl (lenOf pd34 rfl) rfl (by rw [hml]; rfl) rfl (by show 2 * 0 + _ ≤ _; exact Nat.le_of_eq rfl) (by decide) (by decide) (by decide) (by decide) (hb hby at_276) ?_
      intro v203 T203 h203 L203 X203 e203 q203
      obtain ⟨a203, hv203, Nf203, E203, ge203, S203⟩ := q203
      subst hv203
      have N203 := Fr.app N201 Nf203
      show Go p.tables e below _ T203 (mkF m 279 #[.val (.int x0), .val (.int x1), .val (.long x2), .second, .val (.int x3), .val (.int x4), .val (.int (2 : Int32)), .val (.ref l133), .val (.int (0 : Int32)), .val (.int (5 : Int32)), .val (.ref b138), .val (.int (Int32.ofNat pn)), .val (.ref b196), .val (.ref a201), .unset] [(.ref a203)])
      refine Go.st (T' := T203) (g' := (mkF m 281 #[.val (.int x0), .val (.int x1), .val (.long x2), .second, .val (.int x3), .val (.int x4), .val (.int (2 : Int32)), .val (.ref l133), .val (.int (0 : Int32)), .val (.int (5 : Int32)), .val (.ref b138), .val (.int (Int32.ofNat pn)), .val (.ref b196), .val (.ref a201), .val (.ref a203)] [])) (fun _ zk => XS.astore X203.here hx rfl (hb hby at_279) rfl rfl (l' := #[.val (.int x0), .val (.int x1), .val (.long x2), .second, .val (.int x3), .val (.int x4), .val (.int (2 : Int32)), .val (.ref l133), .val (.int (0 : Int32)), .val (.int (5 : Int32)), .val (.ref b138), .val (.int (Int32.ofNat pn)), .val (.ref b196), .val (.ref a201), .val (.ref a203)]) rfl zk) ?_
      refine Go.st (T' := T203) (g' := (mkF m 283 #[.val (.int x0), .val (.int x1), .val (.long x2), .second, .val (.int x3), .val (.int x4), .val (.int (2 : Int32)), .val (.ref l133), .val (.int (0 : Int32)), .val (.int (5 : Int32)), .val (.ref b138), .val (.int (Int32.ofNat pn)), .val (.ref b196), .val (.ref a201), .val (.ref a203)] [(.ref a201)])) (fun _ zk => XS.aload X203.here hx rfl (hb hby at_281) rfl rfl zk) ?_
      refine Go.st (T' := T203) (g' := (mkF m 285 #[.val (.int x0), .val (.int x1), .val (.long x2), .second, .val (.int x3), .val (.int x4), .val (.int (2 : Int32)), .val (.ref l133), .val (.int (0 : Int32)), .val (.int (5 : Int32)), .val (.ref b138), .val (.int (Int32.ofNat pn)), .val (.ref b196), .val (.ref a201), .val (.ref a203)] [(.ref a203), (.ref a201)])) (fun _ zk => XS.aload X203.here hx rfl (hb hby at_283) rfl rfl zk) ?_
      refine Go.st (T' := T203) (g' := (mkF m 287 #[.val (.int x0), .val (.int x1), .val (.long x2), .second, .val (.int x3), .val (.int x4), .val (.int (2 : Int32)), .val (.ref l133), .val (.int (0 : Int32)), .val (.int (5 : Int32)), .val (.ref b138), .val (.int (Int32.ofNat pn)), .val (.ref b196), .val (.ref a201), .val (.ref a203)] [(.ref b196), (.ref a203), (.ref a201)])) (fun _ zk => XS.aload X203.here hx rfl (hb hby at_285) rfl rfl zk) ?_
      have xt206 : Ext h199 h203 := (xt204.tr E203)
      have f207 := SN.ext xt206
      have xt209 : Ext h201 h203 := E203
      have f210 := f205.ext xt209
      have xt211 : Ext h133 h203 := (((((xt178.thenW W183 (Nat.le_of_eq g138.symm)).tr E196).thenK K199 (allS (P := fun x => h133.size ≤ x) (Nat.le_trans (Nat.le_trans (Nat.le_trans (Nat.le_trans (Nat.le_trans (Nat.le_trans (Nat.le_trans (Nat.le_trans (Nat.le_trans (Nat.le_trans (Nat.le_trans (Nat.le_trans (Nat.le_trans E138.1 (Keep.of_wr W140).1) (Keep.of_wr W142).1) (Keep.of_wr W144).1) (Keep.of_wr W146).1) (Keep.of_wr W148).1) (Keep.of_wr W150).1) (Keep.of_wr W152).1) (Keep.of_wr W159).1) (Keep.of_wr W165).1) (Keep.of_wr W171).1) (Keep.of_wr W177).1) (Keep.of_wr W183).1) (Nat.le_of_eq g196.symm)) all0)).tr E201).tr E203)
      have cr212 := chrE ca134 xt211
      refine Go.callStS (y := (⟨"com/example/tokenweave/tokenweave/engine/BpmnReader", "xmlBoolean", "(Ljava/lang/String;Ljava/lang/String;Ljava/lang/String;)Z"⟩ : MethodName)) X203 hx hZ hown e203 hEL cr212.1 hS (Nat.le_trans hk133 (Nat.le_trans (Nat.le_trans (Nat.le_trans (Nat.le_trans (Nat.le_trans (Nat.le_trans (Nat.le_trans (Nat.le_trans (Nat.le_trans (Nat.le_trans (Nat.le_trans (Nat.le_trans (Nat.le_trans (Nat.le_trans (Nat.le_trans (Nat.le_trans E138.1 (Keep.of_wr W140).1) (Keep.of_wr W142).1) (Keep.of_wr W144).1) (Keep.of_wr W146).1) (Keep.of_wr W148).1) (Keep.of_wr W150).1) (Keep.of_wr W152).1) (Keep.of_wr W159).1) (Keep.of_wr W165).1) (Keep.of_wr W171).1) (Keep.of_wr W177).1) (Keep.of_wr W183).1) E196.1) K199.1) E201.1) E203.1)) (w67 hw) (w68 hw) (w69 hw) (w70 hw) (by decide) (argsL := [(.ref a201), (.ref a203), (.ref b196)]) (rest := []) (W := 0) (rm_xmlBool l Z a0 hw [] a201 a203 b196 xs [(102 : Int32), (97 : Int32), (108 : Int32), (115 : Int32), (101 : Int32)] pn (pn + 5) zc ci dA kA h203 n0 (Nat.le_trans Z0 (Nat.le_trans (Nat.le_trans (Nat.le_trans (Nat.le_trans (Nat.le_trans (Nat.le_trans (Nat.le_trans (Nat.le_trans (Nat.le_trans (Nat.le_trans (Nat.le_trans (Nat.le_trans (Nat.le_trans (Nat.le_trans (Nat.le_trans (Nat.le_trans (Nat.le_trans E133.1 E138.1) (Keep.of_wr W140).1) (Keep.of_wr W142).1) (Keep.of_wr W144).1) (Keep.of_wr W146).1) (Keep.of_wr W148).1) (Keep.of_wr W150).1) (Keep.of_wr W152).1) (Keep.of_wr W159).1) (Keep.of_wr W165).1) (Keep.of_wr W171).1) (Keep.of_wr W177).1) (Keep.of_wr W183).1) E196.1) K199.1) E201.1) E203.1)) f210 f207 (by omega) (by omega) (by omega) (by omega) hbuf.1 hbuf.2.1 hbuf.2.2.1 hbuf.2.2.2.1 hbuf.2.2.2.2 (Or.inr (Or.inr (Or.inl rfl))) CS hz SI EI SA FA) all0 rfl (lenOf pd35 rfl) rfl (by rw [hml]; rfl) rfl (by show 2 * 0 + _ ≤ _; exact Nat.le_of_eq rfl) (by decide) (by decide) (by decide) (by decide) (hb hby at_287) ?_
      intro v208 T208 h208 L208 X208 e208 q208 hS hZ hown cr208
      obtain ⟨rx, hv208, hcase, Nf208, E208⟩ := q208
      subst hv208
      have N208 := Fr.app N203 Nf208
      have hrx : rx = (0 : Int32) := by
        rcases hcase with z | z
        · exact absurd z.2 (by decide)
        · exact z.1
      have ca213 := cr212.trans cr208
      show Go p.tables e below _ T208 (mkF m 290 #[.val (.int x0), .val (.int x1), .val (.long x2), .second, .val (.int x3), .val (.int x4), .val (.int (2 : Int32)), .val (.ref l133), .val (.int (0 : Int32)), .val (.int (5 : Int32)), .val (.ref b138), .val (.int (Int32.ofNat pn)), .val (.ref b196), .val (.ref a201), .val (.ref a203)] [(.int rx)])
      refine Go.st (T' := T208) (g' := (mkF m 292 #[.val (.int x0), .val (.int x1), .val (.long x2), .second, .val (.int x3), .val (.int x4), .val (.int (2 : Int32)), .val (.ref l133), .val (.int (0 : Int32)), .val (.int (5 : Int32)), .val (.ref b138), .val (.int (Int32.ofNat pn)), .val (.ref b196), .val (.ref a201), .val (.ref a203)] [(.int (0 : Int32)), (.int rx)])) (fun _ zk => XS.iload X208.here hx rfl (hb hby at_290) rfl zk) ?_
      refine Go.st (T' := T208) (g' := (mkF m 295 #[.val (.int x0), .val (.int x1), .val (.long x2), .second, .val (.int x3), .val (.int x4), .val (.int (2 : Int32)), .val (.ref l133), .val (.int (0 : Int32)), .val (.int (5 : Int32)), .val (.ref b138), .val (.int (Int32.ofNat pn)), .val (.ref b196), .val (.ref a201), .val (.ref a203)] [])) (fun _ zk => XS.icmpNo X208.here hx rfl (hb hby at_292) rfl (teq (hrx : rx = (0 : Int32))).2 zk) ?_
      refine Go.st (T' := T208) (g' := (mkF m 296 #[.val (.int x0), .val (.int x1), .val (.long x2), .second, .val (.int x3), .val (.int x4), .val (.int (2 : Int32)), .val (.ref l133), .val (.int (0 : Int32)), .val (.int (5 : Int32)), .val (.ref b138), .val (.int (Int32.ofNat pn)), .val (.ref b196), .val (.ref a201), .val (.ref a203)] [(.int (1 : Int32))])) (fun _ zk => XS.iconst X208.here hx rfl (hb hby at_295) zk) ?_
      refine Go.st (T' := T208) (g' := (mkF m 300 #[.val (.int x0), .val (.int x1), .val (.long x2), .second, .val (.int x3), .val (.int x4), .val (.int (2 : Int32)), .val (.ref l133), .val (.int (0 : Int32)), .val (.int (5 : Int32)), .val (.ref b138), .val (.int (Int32.ofNat pn)), .val (.ref b196), .val (.ref a201), .val (.ref a203)] [(.int (1 : Int32))])) (fun _ zk => XS.goto X208.here hx rfl (pc0 := 296) (pc' := 300) rfl (hb hby at_296) (by decide) (by decide) zk) ?_
      refine Go.retNS X208 hx hlk hS (Nat.le_refl _) ca213 hZ hEL hret rfl (by simp) (hb hby at_300) (by decide) (by decide) e208 ?_
      exact ⟨rfl, N208⟩
  · refine Go.st (T' := s₁) (g' := (mkF m 7 #[.val (.int x0), .val (.int x1), .val (.long x2), .second, .val (.int x3), .val (.int x4), .val (.int (3 : Int32)), .unset, .unset, .unset, .unset, .unset, .unset, .unset, .unset] [(.int (3 : Int32))])) (fun _ zk => XS.iload X0.here hx rfl (hb hby at_5) rfl zk) ?_
    refine Go.st (T' := s₁) (g' := (mkF m 15 #[.val (.int x0), .val (.int x1), .val (.long x2), .second, .val (.int x3), .val (.int x4), .val (.int (3 : Int32)), .unset, .unset, .unset, .unset, .unset, .unset, .unset, .unset] [])) (fun _ zk => XS.ifYes X0.here hx rfl (pc0 := 7) (pc' := 15) rfl (hb hby at_7) rfl ((if0 _ _).trans (feq ((by decide) : ¬ ((3 : Int32) = (0 : Int32)))).2) (by decide) (by decide) zk) ?_
    refine Go.st (T' := s₁) (g' := (mkF m 17 #[.val (.int x0), .val (.int x1), .val (.long x2), .second, .val (.int x3), .val (.int x4), .val (.int (3 : Int32)), .unset, .unset, .unset, .unset, .unset, .unset, .unset, .unset] [(.int (3 : Int32))])) (fun _ zk => XS.iload X0.here hx rfl (hb hby at_15) rfl zk) ?_
    refine Go.st (T' := s₁) (g' := (mkF m 18 #[.val (.int x0), .val (.int x1), .val (.long x2), .second, .val (.int x3), .val (.int x4), .val (.int (3 : Int32)), .unset, .unset, .unset, .unset, .unset, .unset, .unset, .unset] [(.int (1 : Int32)), (.int (3 : Int32))])) (fun _ zk => XS.iconst X0.here hx rfl (hb hby at_17) zk) ?_
    refine Go.st (T' := s₁) (g' := (mkF m 26 #[.val (.int x0), .val (.int x1), .val (.long x2), .second, .val (.int x3), .val (.int x4), .val (.int (3 : Int32)), .unset, .unset, .unset, .unset, .unset, .unset, .unset, .unset] [])) (fun _ zk => XS.icmpYes X0.here hx rfl (pc0 := 18) (pc' := 26) rfl (hb hby at_18) rfl (feq ((by decide) : ¬ ((3 : Int32) = (1 : Int32)))).2 (by decide) (by decide) zk) ?_
    refine Go.st (T' := s₁) (g' := (mkF m 28 #[.val (.int x0), .val (.int x1), .val (.long x2), .second, .val (.int x3), .val (.int x4), .val (.int (3 : Int32)), .unset, .unset, .unset, .unset, .unset, .unset, .unset, .unset] [(.int (3 : Int32))])) (fun _ zk => XS.iload X0.here hx rfl (hb hby at_26) rfl zk) ?_
    refine Go.st (T' := s₁) (g' := (mkF m 29 #[.val (.int x0), .val (.int x1), .val (.long x2), .second, .val (.int x3), .val (.int x4), .val (.int (3 : Int32)), .unset, .unset, .unset, .unset, .unset, .unset, .unset, .unset] [(.int (2 : Int32)), (.int (3 : Int32))])) (fun _ zk => XS.iconst X0.here hx rfl (hb hby at_28) zk) ?_
    refine Go.st (T' := s₁) (g' := (mkF m 37 #[.val (.int x0), .val (.int x1), .val (.long x2), .second, .val (.int x3), .val (.int x4), .val (.int (3 : Int32)), .unset, .unset, .unset, .unset, .unset, .unset, .unset, .unset] [])) (fun _ zk => XS.icmpYes X0.here hx rfl (pc0 := 29) (pc' := 37) rfl (hb hby at_29) rfl (feq ((by decide) : ¬ ((3 : Int32) = (2 : Int32)))).2 (by decide) (by decide) zk) ?_
    obtain ⟨l214, T214, h214, kk214, lt214, kl214, X214, e214, E214, hS, hk214, hZ', hown, A214, C214, F214, V214, la214, lb214, cr214, -, sf214, st214⟩ := ldcCH X0 hx hZ hown (w152 hw) hSt e0 hS (Nat.zero_le _) hEL (by decide) hA.1 (vs := [(.int (48 : Int32))]) (z := (1 : Int32)) ⟨by decide, by decide⟩ (by decide) (by decide) (g := (mkF m 37 #[.val (.int x0), .val (.int x1), .val (.long x2), .second, .val (.int x3), .val (.int x4), .val (.int (3 : Int32)), .unset, .unset, .unset, .unset, .unset, .unset, .unset, .unset] [])) rfl (hb hby at_37) (n := 4) (by decide) (by decide) (by decide) (by decide)
    have hZ : Z.Warmed39 T214.vm := hZ'
    have ca215 := hA.trans cr214
    refine Go.st (T' := T214) (g' := (mkF m 39 #[.val (.int x0), .val (.int x1), .val (.long x2), .second, .val (.int x3), .val (.int x4), .val (.int (3 : Int32)), .unset, .unset, .unset, .unset, .unset, .unset, .unset, .unset] [(.ref l214)])) (fun _ zk => st214 _ zk) ?_
    have SL : StrB Z h214 l214 0 [(48 : Int32)] := ⟨_, _, A214, C214, F214, V214⟩
    refine Go.st (T' := T214) (g' := (mkF m 41 #[.val (.int x0), .val (.int x1), .val (.long x2), .second, .val (.int x3), .val (.int x4), .val (.int (3 : Int32)), .val (.ref l214), .unset, .unset, .unset, .unset, .unset, .unset, .unset] [])) (fun _ zk => XS.astore X214.here hx rfl (hb hby at_39) rfl rfl (l' := #[.val (.int x0), .val (.int x1), .val (.long x2), .second, .val (.int x3), .val (.int x4), .val (.int (3 : Int32)), .val (.ref l214), .unset, .unset, .unset, .unset, .unset, .unset, .unset]) rfl zk) ?_
    refine Go.st (T' := T214) (g' := (mkF m 43 #[.val (.int x0), .val (.int x1), .val (.long x2), .second, .val (.int x3), .val (.int x4), .val (.int (3 : Int32)), .val (.ref l214), .unset, .unset, .unset, .unset, .unset, .unset, .unset] [(.int (3 : Int32))])) (fun _ zk => XS.iload X214.here hx rfl (hb hby at_41) rfl zk) ?_
    refine Go.st (T' := T214) (g' := (mkF m 44 #[.val (.int x0), .val (.int x1), .val (.long x2), .second, .val (.int x3), .val (.int x4), .val (.int (3 : Int32)), .val (.ref l214), .unset, .unset, .unset, .unset, .unset, .unset, .unset] [(.int (2 : Int32)), (.int (3 : Int32))])) (fun _ zk => XS.iconst X214.here hx rfl (hb hby at_43) zk) ?_
    refine Go.st (T' := T214) (g' := (mkF m 51 #[.val (.int x0), .val (.int x1), .val (.long x2), .second, .val (.int x3), .val (.int x4), .val (.int (3 : Int32)), .val (.ref l214), .unset, .unset, .unset, .unset, .unset, .unset, .unset] [])) (fun _ zk => XS.icmpYes X214.here hx rfl (pc0 := 44) (pc' := 51) rfl (hb hby at_44) rfl (flt ((by decide) : ¬ ((3 : Int32) < (2 : Int32)))).2.1 (by decide) (by decide) zk) ?_
    refine Go.st (T' := T214) (g' := (mkF m 52 #[.val (.int x0), .val (.int x1), .val (.long x2), .second, .val (.int x3), .val (.int x4), .val (.int (3 : Int32)), .val (.ref l214), .unset, .unset, .unset, .unset, .unset, .unset, .unset] [(.int (0 : Int32))])) (fun _ zk => XS.iconst X214.here hx rfl (hb hby at_51) zk) ?_
    refine Go.st (T' := T214) (g' := (mkF m 54 #[.val (.int x0), .val (.int x1), .val (.long x2), .second, .val (.int x3), .val (.int x4), .val (.int (3 : Int32)), .val (.ref l214), .val (.int (0 : Int32)), .unset, .unset, .unset, .unset, .unset, .unset] [])) (fun _ zk => XS.istore X214.here hx rfl (hb hby at_52) rfl (l' := #[.val (.int x0), .val (.int x1), .val (.long x2), .second, .val (.int x3), .val (.int x4), .val (.int (3 : Int32)), .val (.ref l214), .val (.int (0 : Int32)), .unset, .unset, .unset, .unset, .unset, .unset]) rfl zk) ?_
    refine Go.st (T' := T214) (g' := (mkF m 56 #[.val (.int x0), .val (.int x1), .val (.long x2), .second, .val (.int x3), .val (.int x4), .val (.int (3 : Int32)), .val (.ref l214), .val (.int (0 : Int32)), .unset, .unset, .unset, .unset, .unset, .unset] [(.ref l214)])) (fun _ zk => XS.aload X214.here hx rfl (hb hby at_54) rfl rfl zk) ?_
    have xt217 : Ext h0 h214 := E214
    have f218 := O0.ext xt217
    refine Go.callV (y := (⟨"java/lang/String", "length", "()I"⟩ : MethodName)) (z := (⟨"java/lang/String", "length", "()I"⟩ : MethodName)) (C := "java/lang/String") (a := l214) X214 hx hZ hown e214 (w8 hw) (w9 hw) (w11 hw) (w10 hw) (w1 hw) (w12 hw) (notFace_of_selects (args := #[]) (mvT hZ (w11 hw))) (by decide) A214 (argsL := []) (rest := []) (W := 0) (rm_lengthG l Z a0 hw [] l214 [(48 : Int32)] zc h214 n0 (Nat.le_trans Z0 E214.1) f218 SL CS hz) rfl (lenOf pd31 rfl) rfl (by rw [hml]; rfl) rfl (by show 2 * 0 + _ ≤ _; exact Nat.le_of_eq rfl) (by decide) (by decide) (by decide) (by decide) (hb hby at_56) ?_
    intro v216 T216 h216 L216 X216 e216 q216
    obtain ⟨hv216, Nf216, hh216⟩ := q216
    subst hv216
    have E216 : T216.heap = h214 := e216.trans hh216
    have N216 := Fr.app N0 Nf216
    show Go p.tables e below _ T216 (mkF m 59 #[.val (.int x0), .val (.int x1), .val (.long x2), .second, .val (.int x3), .val (.int x4), .val (.int (3 : Int32)), .val (.ref l214), .val (.int (0 : Int32)), .unset, .unset, .unset, .unset, .unset, .unset] [(.int (1 : Int32))])
    refine Go.st (T' := T216) (g' := (mkF m 61 #[.val (.int x0), .val (.int x1), .val (.long x2), .second, .val (.int x3), .val (.int x4), .val (.int (3 : Int32)), .val (.ref l214), .val (.int (0 : Int32)), .val (.int (1 : Int32)), .unset, .unset, .unset, .unset, .unset] [])) (fun _ zk => XS.istore X216.here hx rfl (hb hby at_59) rfl (l' := #[.val (.int x0), .val (.int x1), .val (.long x2), .second, .val (.int x3), .val (.int x4), .val (.int (3 : Int32)), .val (.ref l214), .val (.int (0 : Int32)), .val (.int (1 : Int32)), .unset, .unset, .unset, .unset, .unset]) rfl zk) ?_
    refine Go.st (T' := T216) (g' := (mkF m 63 #[.val (.int x0), .val (.int x1), .val (.long x2), .second, .val (.int x3), .val (.int x4), .val (.int (3 : Int32)), .val (.ref l214), .val (.int (0 : Int32)), .val (.int (1 : Int32)), .unset, .unset, .unset, .unset, .unset] [(.int (7 : Int32))])) (fun _ zk => XS.bipush X216.here hx rfl (hb hby at_61) zk) ?_
    obtain ⟨T219, h219, k219, X219, e219, E219, A219, st219⟩ := newP (aty := .char) X216 hx hZ (w21 hw) E216 (g := (mkF m 63 #[.val (.int x0), .val (.int x1), .val (.long x2), .second, .val (.int x3), .val (.int x4), .val (.int (3 : Int32)), .val (.ref l214), .val (.int (0 : Int32)), .val (.int (1 : Int32)), .unset, .unset, .unset, .unset, .unset] [(.int (7 : Int32))])) rfl (hb hby at_63) rfl (by decide) (cap := 7) (by decide) (by decide) (by decide) (by decide)
    obtain ⟨b219, g219⟩ : ∃ z, z = h214.size := ⟨_, rfl⟩
    rw [← g219] at A219 st219
    have V219 : Arv Z h219 b219 k219 .char (7 : Int32) [(.int (0 : Int32)), (.int (0 : Int32)), (.int (0 : Int32)), (.int (0 : Int32)), (.int (0 : Int32)), (.int (0 : Int32)), (.int (0 : Int32))] (.int (0 : Int32)) := (Arv.new A219 (by decide)).pad (pad_rep [] (.int (0 : Int32)) 7)
    refine Go.st (T' := T219) (g' := (mkF m 65 #[.val (.int x0), .val (.int x1), .val (.long x2), .second, .val (.int x3), .val (.int x4), .val (.int (3 : Int32)), .val (.ref l214), .val (.int (0 : Int32)), .val (.int (1 : Int32)), .unset, .unset, .unset, .unset, .unset] [(.ref b219)])) (fun _ zk => st219 _ zk) ?_
    refine Go.st (T' := T219) (g' := (mkF m 67 #[.val (.int x0), .val (.int x1), .val (.long x2), .second, .val (.int x3), .val (.int x4), .val (.int (3 : Int32)), .val (.ref l214), .val (.int (0 : Int32)), .val (.int (1 : Int32)), .val (.ref b219), .unset, .unset, .unset, .unset] [])) (fun _ zk => XS.astore X219.here hx rfl (hb hby at_65) rfl rfl (l' := #[.val (.int x0), .val (.int x1), .val (.long x2), .second, .val (.int x3), .val (.int x4), .val (.int (3 : Int32)), .val (.ref l214), .val (.int (0 : Int32)), .val (.int (1 : Int32)), .val (.ref b219), .unset, .unset, .unset, .unset]) rfl zk) ?_
    refine Go.st (T' := T219) (g' := (mkF m 69 #[.val (.int x0), .val (.int x1), .val (.long x2), .second, .val (.int x3), .val (.int x4), .val (.int (3 : Int32)), .val (.ref l214), .val (.int (0 : Int32)), .val (.int (1 : Int32)), .val (.ref b219), .unset, .unset, .unset, .unset] [(.ref b219)])) (fun _ zk => XS.aload X219.here hx rfl (hb hby at_67) rfl rfl zk) ?_
    refine Go.st (T' := T219) (g' := (mkF m 70 #[.val (.int x0), .val (.int x1), .val (.long x2), .second, .val (.int x3), .val (.int x4), .val (.int (3 : Int32)), .val (.ref l214), .val (.int (0 : Int32)), .val (.int (1 : Int32)), .val (.ref b219), .unset, .unset, .unset, .unset] [(.int (0 : Int32)), (.ref b219)])) (fun _ zk => XS.iconst X219.here hx rfl (hb hby at_69) zk) ?_
    refine Go.st (T' := T219) (g' := (mkF m 71 #[.val (.int x0), .val (.int x1), .val (.long x2), .second, .val (.int x3), .val (.int x4), .val (.int (3 : Int32)), .val (.ref l214), .val (.int (0 : Int32)), .val (.int (1 : Int32)), .val (.ref b219), .unset, .unset, .unset, .unset] [(.long x2), (.int (0 : Int32)), (.ref b219)])) (fun _ zk => XS.lloadN X219.here hx rfl (hb hby at_70) rfl zk) ?_
    refine Go.st (T' := T219) (g' := (mkF m 72 #[.val (.int x0), .val (.int x1), .val (.long x2), .second, .val (.int x3), .val (.int x4), .val (.int (3 : Int32)), .val (.ref l214), .val (.int (0 : Int32)), .val (.int (1 : Int32)), .val (.ref b219), .unset, .unset, .unset, .unset] [(.int (0 : Int32)), (.long x2), (.int (0 : Int32)), (.ref b219)])) (fun _ zk => XS.iconst X219.here hx rfl (hb hby at_71) zk) ?_
    refine Go.callSt (y := (⟨"com/example/tokenweave/tokenweave/engine/BpmnReaderXmlBooleanPinLaw", "space", "(JI)C"⟩ : MethodName)) X219 hx hZ hown e219 (w22 hw) (w23 hw) (w24 hw) (w25 hw) (by decide) (argsL := [(.long x2), (.int (0 : Int32))]) (rest := [(.int (0 : Int32)), (.ref b219)]) (W := 2) (rm_space l Z a0 hw [] x2 (0 : Int32) h219 n0 (Nat.le_trans Z0 (Nat.le_trans E214.1 E219.1)) ) rfl (lenOf pd32 rfl) rfl (by rw [hml]; rfl) rfl (by show 2 * 0 + _ ≤ _; exact Nat.le_of_eq rfl) (by decide) (by decide) (by decide) (by decide) (hb hby at_72) ?_
    intro v220 T220 h220 L220 X220 e220 q220
    obtain ⟨sp0, hv220, qw0, Nf220, hh220⟩ := q220
    subst hv220
    have E220 : T220.heap = h219 := e220.trans hh220
    have N220 := Fr.app N216 Nf220
    show Go p.tables e below _ T220 (mkF m 75 #[.val (.int x0), .val (.int x1), .val (.long x2), .second, .val (.int x3), .val (.int x4), .val (.int (3 : Int32)), .val (.ref l214), .val (.int (0 : Int32)), .val (.int (1 : Int32)), .val (.ref b219), .unset, .unset, .unset, .unset] [(.int sp0), (.int (0 : Int32)), (.ref b219)])
    obtain ⟨T221, h221, X221, e221, W221, V221, st221⟩ := stCV X220 hx hZ E220 V219 (j := (0 : Int32)) (i := 0) (by decide) rfl (Nat.le_of_ble_eq_true rfl) (g := (mkF m 75 #[.val (.int x0), .val (.int x1), .val (.long x2), .second, .val (.int x3), .val (.int x4), .val (.int (3 : Int32)), .val (.ref l214), .val (.int (0 : Int32)), .val (.int (1 : Int32)), .val (.ref b219), .unset, .unset, .unset, .unset] [(.int sp0), (.int (0 : Int32)), (.ref b219)])) rfl rfl (hb hby at_75)
    rw [nar_cid (x := sp0) (by unfold wsr at qw0; omega)] at V221
    have V221' : Arv Z h221 b219 k219 .char (7 : Int32) [(.int sp0), (.int (0 : Int32)), (.int (0 : Int32)), (.int (0 : Int32)), (.int (0 : Int32)), (.int (0 : Int32)), (.int (0 : Int32))] (.int (0 : Int32)) := V221
    have N221 := Fr.snoc X221 N220 (Nat.le_trans Z0 (Nat.le_trans E214.1 (Nat.le_of_eq g219.symm)))
    refine Go.st (T' := T221) (g' := (mkF m 76 #[.val (.int x0), .val (.int x1), .val (.long x2), .second, .val (.int x3), .val (.int x4), .val (.int (3 : Int32)), .val (.ref l214), .val (.int (0 : Int32)), .val (.int (1 : Int32)), .val (.ref b219), .unset, .unset, .unset, .unset] [])) (fun _ zk => st221 _ zk) ?_
    refine Go.st (T' := T221) (g' := (mkF m 78 #[.val (.int x0), .val (.int x1), .val (.long x2), .second, .val (.int x3), .val (.int x4), .val (.int (3 : Int32)), .val (.ref l214), .val (.int (0 : Int32)), .val (.int (1 : Int32)), .val (.ref b219), .unset, .unset, .unset, .unset] [(.ref b219)])) (fun _ zk => XS.aload X221.here hx rfl (hb hby at_76) rfl rfl zk) ?_
    refine Go.st (T' := T221) (g' := (mkF m 79 #[.val (.int x0), .val (.int x1), .val (.long x2), .second, .val (.int x3), .val (.int x4), .val (.int (3 : Int32)), .val (.ref l214), .val (.int (0 : Int32)), .val (.int (1 : Int32)), .val (.ref b219), .unset, .unset, .unset, .unset] [(.int (1 : Int32)), (.ref b219)])) (fun _ zk => XS.iconst X221.here hx rfl (hb hby at_78) zk) ?_
    refine Go.st (T' := T221) (g' := (mkF m 80 #[.val (.int x0), .val (.int x1), .val (.long x2), .second, .val (.int x3), .val (.int x4), .val (.int (3 : Int32)), .val (.ref l214), .val (.int (0 : Int32)), .val (.int (1 : Int32)), .val (.ref b219), .unset, .unset, .unset, .unset] [(.long x2), (.int (1 : Int32)), (.ref b219)])) (fun _ zk => XS.lloadN X221.here hx rfl (hb hby at_79) rfl zk) ?_
    refine Go.st (T' := T221) (g' := (mkF m 81 #[.val (.int x0), .val (.int x1), .val (.long x2), .second, .val (.int x3), .val (.int x4), .val (.int (3 : Int32)), .val (.ref l214), .val (.int (0 : Int32)), .val (.int (1 : Int32)), .val (.ref b219), .unset, .unset, .unset, .unset] [(.int (1 : Int32)), (.long x2), (.int (1 : Int32)), (.ref b219)])) (fun _ zk => XS.iconst X221.here hx rfl (hb hby at_80) zk) ?_
    refine Go.callSt (y := (⟨"com/example/tokenweave/tokenweave/engine/BpmnReaderXmlBooleanPinLaw", "space", "(JI)C"⟩ : MethodName)) X221 hx hZ hown e221 (w22 hw) (w23 hw) (w24 hw) (w25 hw) (by decide) (argsL := [(.long x2), (.int (1 : Int32))]) (rest := [(.int (1 : Int32)), (.ref b219)]) (W := 2) (rm_space l Z a0 hw [] x2 (1 : Int32) h221 n0 (Nat.le_trans Z0 (Nat.le_trans (Nat.le_trans E214.1 E219.1) (Keep.of_wr W221).1)) ) rfl (lenOf pd32 rfl) rfl (by rw [hml]; rfl) rfl (by show 2 * 0 + _ ≤ _; exact Nat.le_of_eq rfl) (by decide) (by decide) (by decide) (by decide) (hb hby at_81) ?_
    intro v222 T222 h222 L222 X222 e222 q222
    obtain ⟨sp1, hv222, qw1, Nf222, hh222⟩ := q222
    subst hv222
    have E222 : T222.heap = h221 := e222.trans hh222
    have N222 := Fr.app N221 Nf222
    show Go p.tables e below _ T222 (mkF m 84 #[.val (.int x0), .val (.int x1), .val (.long x2), .second, .val (.int x3), .val (.int x4), .val (.int (3 : Int32)), .val (.ref l214), .val (.int (0 : Int32)), .val (.int (1 : Int32)), .val (.ref b219), .unset, .unset, .unset, .unset] [(.int sp1), (.int (1 : Int32)), (.ref b219)])
    obtain ⟨T223, h223, X223, e223, W223, V223, st223⟩ := stCV X222 hx hZ E222 V221' (j := (1 : Int32)) (i := 1) (by decide) rfl (Nat.le_of_ble_eq_true rfl) (g := (mkF m 84 #[.val (.int x0), .val (.int x1), .val (.long x2), .second, .val (.int x3), .val (.int x4), .val (.int (3 : Int32)), .val (.ref l214), .val (.int (0 : Int32)), .val (.int (1 : Int32)), .val (.ref b219), .unset, .unset, .unset, .unset] [(.int sp1), (.int (1 : Int32)), (.ref b219)])) rfl rfl (hb hby at_84)
    rw [nar_cid (x := sp1) (by unfold wsr at qw1; omega)] at V223
    have V223' : Arv Z h223 b219 k219 .char (7 : Int32) [(.int sp0), (.int sp1), (.int (0 : Int32)), (.int (0 : Int32)), (.int (0 : Int32)), (.int (0 : Int32)), (.int (0 : Int32))] (.int (0 : Int32)) := V223
    have N223 := Fr.snoc X223 N222 (Nat.le_trans Z0 (Nat.le_trans E214.1 (Nat.le_of_eq g219.symm)))
    refine Go.st (T' := T223) (g' := (mkF m 85 #[.val (.int x0), .val (.int x1), .val (.long x2), .second, .val (.int x3), .val (.int x4), .val (.int (3 : Int32)), .val (.ref l214), .val (.int (0 : Int32)), .val (.int (1 : Int32)), .val (.ref b219), .unset, .unset, .unset, .unset] [])) (fun _ zk => st223 _ zk) ?_
    refine Go.st (T' := T223) (g' := (mkF m 87 #[.val (.int x0), .val (.int x1), .val (.long x2), .second, .val (.int x3), .val (.int x4), .val (.int (3 : Int32)), .val (.ref l214), .val (.int (0 : Int32)), .val (.int (1 : Int32)), .val (.ref b219), .unset, .unset, .unset, .unset] [(.ref b219)])) (fun _ zk => XS.aload X223.here hx rfl (hb hby at_85) rfl rfl zk) ?_
    refine Go.st (T' := T223) (g' := (mkF m 88 #[.val (.int x0), .val (.int x1), .val (.long x2), .second, .val (.int x3), .val (.int x4), .val (.int (3 : Int32)), .val (.ref l214), .val (.int (0 : Int32)), .val (.int (1 : Int32)), .val (.ref b219), .unset, .unset, .unset, .unset] [(.int (2 : Int32)), (.ref b219)])) (fun _ zk => XS.iconst X223.here hx rfl (hb hby at_87) zk) ?_
    refine Go.st (T' := T223) (g' := (mkF m 89 #[.val (.int x0), .val (.int x1), .val (.long x2), .second, .val (.int x3), .val (.int x4), .val (.int (3 : Int32)), .val (.ref l214), .val (.int (0 : Int32)), .val (.int (1 : Int32)), .val (.ref b219), .unset, .unset, .unset, .unset] [(.long x2), (.int (2 : Int32)), (.ref b219)])) (fun _ zk => XS.lloadN X223.here hx rfl (hb hby at_88) rfl zk) ?_
    refine Go.st (T' := T223) (g' := (mkF m 90 #[.val (.int x0), .val (.int x1), .val (.long x2), .second, .val (.int x3), .val (.int x4), .val (.int (3 : Int32)), .val (.ref l214), .val (.int (0 : Int32)), .val (.int (1 : Int32)), .val (.ref b219), .unset, .unset, .unset, .unset] [(.int (2 : Int32)), (.long x2), (.int (2 : Int32)), (.ref b219)])) (fun _ zk => XS.iconst X223.here hx rfl (hb hby at_89) zk) ?_
    refine Go.callSt (y := (⟨"com/example/tokenweave/tokenweave/engine/BpmnReaderXmlBooleanPinLaw", "space", "(JI)C"⟩ : MethodName)) X223 hx hZ hown e223 (w22 hw) (w23 hw) (w24 hw) (w25 hw) (by decide) (argsL := [(.long x2), (.int (2 : Int32))]) (rest := [(.int (2 : Int32)), (.ref b219)]) (W := 2) (rm_space l Z a0 hw [] x2 (2 : Int32) h223 n0 (Nat.le_trans Z0 (Nat.le_trans (Nat.le_trans (Nat.le_trans E214.1 E219.1) (Keep.of_wr W221).1) (Keep.of_wr W223).1)) ) rfl (lenOf pd32 rfl) rfl (by rw [hml]; rfl) rfl (by show 2 * 0 + _ ≤ _; exact Nat.le_of_eq rfl) (by decide) (by decide) (by decide) (by decide) (hb hby at_90) ?_
    intro v224 T224 h224 L224 X224 e224 q224
    obtain ⟨sp2, hv224, qw2, Nf224, hh224⟩ := q224
    subst hv224
    have E224 : T224.heap = h223 := e224.trans hh224
    have N224 := Fr.app N223 Nf224
    show Go p.tables e below _ T224 (mkF m 93 #[.val (.int x0), .val (.int x1), .val (.long x2), .second, .val (.int x3), .val (.int x4), .val (.int (3 : Int32)), .val (.ref l214), .val (.int (0 : Int32)), .val (.int (1 : Int32)), .val (.ref b219), .unset, .unset, .unset, .unset] [(.int sp2), (.int (2 : Int32)), (.ref b219)])
    obtain ⟨T225, h225, X225, e225, W225, V225, st225⟩ := stCV X224 hx hZ E224 V223' (j := (2 : Int32)) (i := 2) (by decide) rfl (Nat.le_of_ble_eq_true rfl) (g := (mkF m 93 #[.val (.int x0), .val (.int x1), .val (.long x2), .second, .val (.int x3), .val (.int x4), .val (.int (3 : Int32)), .val (.ref l214), .val (.int (0 : Int32)), .val (.int (1 : Int32)), .val (.ref b219), .unset, .unset, .unset, .unset] [(.int sp2), (.int (2 : Int32)), (.ref b219)])) rfl rfl (hb hby at_93)
    rw [nar_cid (x := sp2) (by unfold wsr at qw2; omega)] at V225
    have V225' : Arv Z h225 b219 k219 .char (7 : Int32) [(.int sp0), (.int sp1), (.int sp2), (.int (0 : Int32)), (.int (0 : Int32)), (.int (0 : Int32)), (.int (0 : Int32))] (.int (0 : Int32)) := V225
    have N225 := Fr.snoc X225 N224 (Nat.le_trans Z0 (Nat.le_trans E214.1 (Nat.le_of_eq g219.symm)))
    refine Go.st (T' := T225) (g' := (mkF m 94 #[.val (.int x0), .val (.int x1), .val (.long x2), .second, .val (.int x3), .val (.int x4), .val (.int (3 : Int32)), .val (.ref l214), .val (.int (0 : Int32)), .val (.int (1 : Int32)), .val (.ref b219), .unset, .unset, .unset, .unset] [])) (fun _ zk => st225 _ zk) ?_
    refine Go.st (T' := T225) (g' := (mkF m 96 #[.val (.int x0), .val (.int x1), .val (.long x2), .second, .val (.int x3), .val (.int x4), .val (.int (3 : Int32)), .val (.ref l214), .val (.int (0 : Int32)), .val (.int (1 : Int32)), .val (.ref b219), .unset, .unset, .unset, .unset] [(.ref b219)])) (fun _ zk => XS.aload X225.here hx rfl (hb hby at_94) rfl rfl zk) ?_
    refine Go.st (T' := T225) (g' := (mkF m 97 #[.val (.int x0), .val (.int x1), .val (.long x2), .second, .val (.int x3), .val (.int x4), .val (.int (3 : Int32)), .val (.ref l214), .val (.int (0 : Int32)), .val (.int (1 : Int32)), .val (.ref b219), .unset, .unset, .unset, .unset] [(.int (3 : Int32)), (.ref b219)])) (fun _ zk => XS.iconst X225.here hx rfl (hb hby at_96) zk) ?_
    refine Go.st (T' := T225) (g' := (mkF m 98 #[.val (.int x0), .val (.int x1), .val (.long x2), .second, .val (.int x3), .val (.int x4), .val (.int (3 : Int32)), .val (.ref l214), .val (.int (0 : Int32)), .val (.int (1 : Int32)), .val (.ref b219), .unset, .unset, .unset, .unset] [(.long x2), (.int (3 : Int32)), (.ref b219)])) (fun _ zk => XS.lloadN X225.here hx rfl (hb hby at_97) rfl zk) ?_
    refine Go.st (T' := T225) (g' := (mkF m 99 #[.val (.int x0), .val (.int x1), .val (.long x2), .second, .val (.int x3), .val (.int x4), .val (.int (3 : Int32)), .val (.ref l214), .val (.int (0 : Int32)), .val (.int (1 : Int32)), .val (.ref b219), .unset, .unset, .unset, .unset] [(.int (3 : Int32)), (.long x2), (.int (3 : Int32)), (.ref b219)])) (fun _ zk => XS.iconst X225.here hx rfl (hb hby at_98) zk) ?_
    refine Go.callSt (y := (⟨"com/example/tokenweave/tokenweave/engine/BpmnReaderXmlBooleanPinLaw", "space", "(JI)C"⟩ : MethodName)) X225 hx hZ hown e225 (w22 hw) (w23 hw) (w24 hw) (w25 hw) (by decide) (argsL := [(.long x2), (.int (3 : Int32))]) (rest := [(.int (3 : Int32)), (.ref b219)]) (W := 2) (rm_space l Z a0 hw [] x2 (3 : Int32) h225 n0 (Nat.le_trans Z0 (Nat.le_trans (Nat.le_trans (Nat.le_trans (Nat.le_trans E214.1 E219.1) (Keep.of_wr W221).1) (Keep.of_wr W223).1) (Keep.of_wr W225).1)) ) rfl (lenOf pd32 rfl) rfl (by rw [hml]; rfl) rfl (by show 2 * 0 + _ ≤ _; exact Nat.le_of_eq rfl) (by decide) (by decide) (by decide) (by decide) (hb hby at_99) ?_
    intro v226 T226 h226 L226 X226 e226 q226
    obtain ⟨sp3, hv226, qw3, Nf226, hh226⟩ := q226
    subst hv226
    have E226 : T226.heap = h225 := e226.trans hh226
    have N226 := Fr.app N225 Nf226
    show Go p.tables e below _ T226 (mkF m 102 #[.val (.int x0), .val (.int x1), .val (.long x2), .second, .val (.int x3), .val (.int x4), .val (.int (3 : Int32)), .val (.ref l214), .val (.int (0 : Int32)), .val (.int (1 : Int32)), .val (.ref b219), .unset, .unset, .unset, .unset] [(.int sp3), (.int (3 : Int32)), (.ref b219)])
    obtain ⟨T227, h227, X227, e227, W227, V227, st227⟩ := stCV X226 hx hZ E226 V225' (j := (3 : Int32)) (i := 3) (by decide) rfl (Nat.le_of_ble_eq_true rfl) (g := (mkF m 102 #[.val (.int x0), .val (.int x1), .val (.long x2), .second, .val (.int x3), .val (.int x4), .val (.int (3 : Int32)), .val (.ref l214), .val (.int (0 : Int32)), .val (.int (1 : Int32)), .val (.ref b219), .unset, .unset, .unset, .unset] [(.int sp3), (.int (3 : Int32)), (.ref b219)])) rfl rfl (hb hby at_102)
    rw [nar_cid (x := sp3) (by unfold wsr at qw3; omega)] at V227
    have V227' : Arv Z h227 b219 k219 .char (7 : Int32) [(.int sp0), (.int sp1), (.int sp2), (.int sp3), (.int (0 : Int32)), (.int (0 : Int32)), (.int (0 : Int32))] (.int (0 : Int32)) := V227
    have N227 := Fr.snoc X227 N226 (Nat.le_trans Z0 (Nat.le_trans E214.1 (Nat.le_of_eq g219.symm)))
    refine Go.st (T' := T227) (g' := (mkF m 103 #[.val (.int x0), .val (.int x1), .val (.long x2), .second, .val (.int x3), .val (.int x4), .val (.int (3 : Int32)), .val (.ref l214), .val (.int (0 : Int32)), .val (.int (1 : Int32)), .val (.ref b219), .unset, .unset, .unset, .unset] [])) (fun _ zk => st227 _ zk) ?_
    refine Go.st (T' := T227) (g' := (mkF m 105 #[.val (.int x0), .val (.int x1), .val (.long x2), .second, .val (.int x3), .val (.int x4), .val (.int (3 : Int32)), .val (.ref l214), .val (.int (0 : Int32)), .val (.int (1 : Int32)), .val (.ref b219), .unset, .unset, .unset, .unset] [(.ref b219)])) (fun _ zk => XS.aload X227.here hx rfl (hb hby at_103) rfl rfl zk) ?_
    refine Go.st (T' := T227) (g' := (mkF m 106 #[.val (.int x0), .val (.int x1), .val (.long x2), .second, .val (.int x3), .val (.int x4), .val (.int (3 : Int32)), .val (.ref l214), .val (.int (0 : Int32)), .val (.int (1 : Int32)), .val (.ref b219), .unset, .unset, .unset, .unset] [(.int (4 : Int32)), (.ref b219)])) (fun _ zk => XS.iconst X227.here hx rfl (hb hby at_105) zk) ?_
    refine Go.st (T' := T227) (g' := (mkF m 107 #[.val (.int x0), .val (.int x1), .val (.long x2), .second, .val (.int x3), .val (.int x4), .val (.int (3 : Int32)), .val (.ref l214), .val (.int (0 : Int32)), .val (.int (1 : Int32)), .val (.ref b219), .unset, .unset, .unset, .unset] [(.long x2), (.int (4 : Int32)), (.ref b219)])) (fun _ zk => XS.lloadN X227.here hx rfl (hb hby at_106) rfl zk) ?_
    refine Go.st (T' := T227) (g' := (mkF m 108 #[.val (.int x0), .val (.int x1), .val (.long x2), .second, .val (.int x3), .val (.int x4), .val (.int (3 : Int32)), .val (.ref l214), .val (.int (0 : Int32)), .val (.int (1 : Int32)), .val (.ref b219), .unset, .unset, .unset, .unset] [(.int (4 : Int32)), (.long x2), (.int (4 : Int32)), (.ref b219)])) (fun _ zk => XS.iconst X227.here hx rfl (hb hby at_107) zk) ?_
    refine Go.callSt (y := (⟨"com/example/tokenweave/tokenweave/engine/BpmnReaderXmlBooleanPinLaw", "space", "(JI)C"⟩ : MethodName)) X227 hx hZ hown e227 (w22 hw) (w23 hw) (w24 hw) (w25 hw) (by decide) (argsL := [(.long x2), (.int (4 : Int32))]) (rest := [(.int (4 : Int32)), (.ref b219)]) (W := 2) (rm_space l Z a0 hw [] x2 (4 : Int32) h227 n0 (Nat.le_trans Z0 (Nat.le_trans (Nat.le_trans (Nat.le_trans (Nat.le_trans (Nat.le_trans E214.1 E219.1) (Keep.of_wr W221).1) (Keep.of_wr W223).1) (Keep.of_wr W225).1) (Keep.of_wr W227).1)) ) rfl (lenOf pd32 rfl) rfl (by rw [hml]; rfl) rfl (by show 2 * 0 + _ ≤ _; exact Nat.le_of_eq rfl) (by decide) (by decide) (by decide) (by decide) (hb hby at_108) ?_
    intro v228 T228 h228 L228 X228 e228 q228
    obtain ⟨sp4, hv228, qw4, Nf228, hh228⟩ := q228
    subst hv228
    have E228 : T228.heap = h227 := e228.trans hh228
    have N228 := Fr.app N227 Nf228
    show Go p.tables e below _ T228 (mkF m 111 #[.val (.int x0), .val (.int x1), .val (.long x2), .second, .val (.int x3), .val (.int x4), .val (.int (3 : Int32)), .val (.ref l214), .val (.int (0 : Int32)), .val (.int (1 : Int32)), .val (.ref b219), .unset, .unset, .unset, .unset] [(.int sp4), (.int (4 : Int32)), (.ref b219)])
    obtain ⟨T229, h229, X229, e229, W229, V229, st229⟩ := stCV X228 hx hZ E228 V227' (j := (4 : Int32)) (i := 4) (by decide) rfl (Nat.le_of_ble_eq_true rfl) (g := (mkF m 111 #[.val (.int x0), .val (.int x1), .val (.long x2), .second, .val (.int x3), .val (.int x4), .val (.int (3 : Int32)), .val (.ref l214), .val (.int (0 : Int32)), .val (.int (1 : Int32)), .val (.ref b219), .unset, .unset, .unset, .unset] [(.int sp4), (.int (4 : Int32)), (.ref b219)])) rfl rfl (hb hby at_111)
    rw [nar_cid (x := sp4) (by unfold wsr at qw4; omega)] at V229
    have V229' : Arv Z h229 b219 k219 .char (7 : Int32) [(.int sp0), (.int sp1), (.int sp2), (.int sp3), (.int sp4), (.int (0 : Int32)), (.int (0 : Int32))] (.int (0 : Int32)) := V229
    have N229 := Fr.snoc X229 N228 (Nat.le_trans Z0 (Nat.le_trans E214.1 (Nat.le_of_eq g219.symm)))
    refine Go.st (T' := T229) (g' := (mkF m 112 #[.val (.int x0), .val (.int x1), .val (.long x2), .second, .val (.int x3), .val (.int x4), .val (.int (3 : Int32)), .val (.ref l214), .val (.int (0 : Int32)), .val (.int (1 : Int32)), .val (.ref b219), .unset, .unset, .unset, .unset] [])) (fun _ zk => st229 _ zk) ?_
    refine Go.st (T' := T229) (g' := (mkF m 114 #[.val (.int x0), .val (.int x1), .val (.long x2), .second, .val (.int x3), .val (.int x4), .val (.int (3 : Int32)), .val (.ref l214), .val (.int (0 : Int32)), .val (.int (1 : Int32)), .val (.ref b219), .unset, .unset, .unset, .unset] [(.ref b219)])) (fun _ zk => XS.aload X229.here hx rfl (hb hby at_112) rfl rfl zk) ?_
    refine Go.st (T' := T229) (g' := (mkF m 115 #[.val (.int x0), .val (.int x1), .val (.long x2), .second, .val (.int x3), .val (.int x4), .val (.int (3 : Int32)), .val (.ref l214), .val (.int (0 : Int32)), .val (.int (1 : Int32)), .val (.ref b219), .unset, .unset, .unset, .unset] [(.int (5 : Int32)), (.ref b219)])) (fun _ zk => XS.iconst X229.here hx rfl (hb hby at_114) zk) ?_
    refine Go.st (T' := T229) (g' := (mkF m 116 #[.val (.int x0), .val (.int x1), .val (.long x2), .second, .val (.int x3), .val (.int x4), .val (.int (3 : Int32)), .val (.ref l214), .val (.int (0 : Int32)), .val (.int (1 : Int32)), .val (.ref b219), .unset, .unset, .unset, .unset] [(.long x2), (.int (5 : Int32)), (.ref b219)])) (fun _ zk => XS.lloadN X229.here hx rfl (hb hby at_115) rfl zk) ?_
    refine Go.st (T' := T229) (g' := (mkF m 117 #[.val (.int x0), .val (.int x1), .val (.long x2), .second, .val (.int x3), .val (.int x4), .val (.int (3 : Int32)), .val (.ref l214), .val (.int (0 : Int32)), .val (.int (1 : Int32)), .val (.ref b219), .unset, .unset, .unset, .unset] [(.int (5 : Int32)), (.long x2), (.int (5 : Int32)), (.ref b219)])) (fun _ zk => XS.iconst X229.here hx rfl (hb hby at_116) zk) ?_
    refine Go.callSt (y := (⟨"com/example/tokenweave/tokenweave/engine/BpmnReaderXmlBooleanPinLaw", "space", "(JI)C"⟩ : MethodName)) X229 hx hZ hown e229 (w22 hw) (w23 hw) (w24 hw) (w25 hw) (by decide) (argsL := [(.long x2), (.int (5 : Int32))]) (rest := [(.int (5 : Int32)), (.ref b219)]) (W := 2) (rm_space l Z a0 hw [] x2 (5 : Int32) h229 n0 (Nat.le_trans Z0 (Nat.le_trans (Nat.le_trans (Nat.le_trans (Nat.le_trans (Nat.le_trans (Nat.le_trans E214.1 E219.1) (Keep.of_wr W221).1) (Keep.of_wr W223).1) (Keep.of_wr W225).1) (Keep.of_wr W227).1) (Keep.of_wr W229).1)) ) rfl (lenOf pd32 rfl) rfl (by rw [hml]; rfl) rfl (by show 2 * 0 + _ ≤ _; exact Nat.le_of_eq rfl) (by decide) (by decide) (by decide) (by decide) (hb hby at_117) ?_
    intro v230 T230 h230 L230 X230 e230 q230
    obtain ⟨sp5, hv230, qw5, Nf230, hh230⟩ := q230
    subst hv230
    have E230 : T230.heap = h229 := e230.trans hh230
    have N230 := Fr.app N229 Nf230
    show Go p.tables e below _ T230 (mkF m 120 #[.val (.int x0), .val (.int x1), .val (.long x2), .second, .val (.int x3), .val (.int x4), .val (.int (3 : Int32)), .val (.ref l214), .val (.int (0 : Int32)), .val (.int (1 : Int32)), .val (.ref b219), .unset, .unset, .unset, .unset] [(.int sp5), (.int (5 : Int32)), (.ref b219)])
    obtain ⟨T231, h231, X231, e231, W231, V231, st231⟩ := stCV X230 hx hZ E230 V229' (j := (5 : Int32)) (i := 5) (by decide) rfl (Nat.le_of_ble_eq_true rfl) (g := (mkF m 120 #[.val (.int x0), .val (.int x1), .val (.long x2), .second, .val (.int x3), .val (.int x4), .val (.int (3 : Int32)), .val (.ref l214), .val (.int (0 : Int32)), .val (.int (1 : Int32)), .val (.ref b219), .unset, .unset, .unset, .unset] [(.int sp5), (.int (5 : Int32)), (.ref b219)])) rfl rfl (hb hby at_120)
    rw [nar_cid (x := sp5) (by unfold wsr at qw5; omega)] at V231
    have V231' : Arv Z h231 b219 k219 .char (7 : Int32) [(.int sp0), (.int sp1), (.int sp2), (.int sp3), (.int sp4), (.int sp5), (.int (0 : Int32))] (.int (0 : Int32)) := V231
    have N231 := Fr.snoc X231 N230 (Nat.le_trans Z0 (Nat.le_trans E214.1 (Nat.le_of_eq g219.symm)))
    refine Go.st (T' := T231) (g' := (mkF m 121 #[.val (.int x0), .val (.int x1), .val (.long x2), .second, .val (.int x3), .val (.int x4), .val (.int (3 : Int32)), .val (.ref l214), .val (.int (0 : Int32)), .val (.int (1 : Int32)), .val (.ref b219), .unset, .unset, .unset, .unset] [])) (fun _ zk => st231 _ zk) ?_
    refine Go.st (T' := T231) (g' := (mkF m 123 #[.val (.int x0), .val (.int x1), .val (.long x2), .second, .val (.int x3), .val (.int x4), .val (.int (3 : Int32)), .val (.ref l214), .val (.int (0 : Int32)), .val (.int (1 : Int32)), .val (.ref b219), .unset, .unset, .unset, .unset] [(.ref b219)])) (fun _ zk => XS.aload X231.here hx rfl (hb hby at_121) rfl rfl zk) ?_
    refine Go.st (T' := T231) (g' := (mkF m 125 #[.val (.int x0), .val (.int x1), .val (.long x2), .second, .val (.int x3), .val (.int x4), .val (.int (3 : Int32)), .val (.ref l214), .val (.int (0 : Int32)), .val (.int (1 : Int32)), .val (.ref b219), .unset, .unset, .unset, .unset] [(.int (6 : Int32)), (.ref b219)])) (fun _ zk => XS.bipush X231.here hx rfl (hb hby at_123) zk) ?_
    refine Go.st (T' := T231) (g' := (mkF m 126 #[.val (.int x0), .val (.int x1), .val (.long x2), .second, .val (.int x3), .val (.int x4), .val (.int (3 : Int32)), .val (.ref l214), .val (.int (0 : Int32)), .val (.int (1 : Int32)), .val (.ref b219), .unset, .unset, .unset, .unset] [(.long x2), (.int (6 : Int32)), (.ref b219)])) (fun _ zk => XS.lloadN X231.here hx rfl (hb hby at_125) rfl zk) ?_
    refine Go.st (T' := T231) (g' := (mkF m 128 #[.val (.int x0), .val (.int x1), .val (.long x2), .second, .val (.int x3), .val (.int x4), .val (.int (3 : Int32)), .val (.ref l214), .val (.int (0 : Int32)), .val (.int (1 : Int32)), .val (.ref b219), .unset, .unset, .unset, .unset] [(.int (6 : Int32)), (.long x2), (.int (6 : Int32)), (.ref b219)])) (fun _ zk => XS.bipush X231.here hx rfl (hb hby at_126) zk) ?_
    refine Go.callSt (y := (⟨"com/example/tokenweave/tokenweave/engine/BpmnReaderXmlBooleanPinLaw", "space", "(JI)C"⟩ : MethodName)) X231 hx hZ hown e231 (w22 hw) (w23 hw) (w24 hw) (w25 hw) (by decide) (argsL := [(.long x2), (.int (6 : Int32))]) (rest := [(.int (6 : Int32)), (.ref b219)]) (W := 2) (rm_space l Z a0 hw [] x2 (6 : Int32) h231 n0 (Nat.le_trans Z0 (Nat.le_trans (Nat.le_trans (Nat.le_trans (Nat.le_trans (Nat.le_trans (Nat.le_trans (Nat.le_trans E214.1 E219.1) (Keep.of_wr W221).1) (Keep.of_wr W223).1) (Keep.of_wr W225).1) (Keep.of_wr W227).1) (Keep.of_wr W229).1) (Keep.of_wr W231).1)) ) rfl (lenOf pd32 rfl) rfl (by rw [hml]; rfl) rfl (by show 2 * 0 + _ ≤ _; exact Nat.le_of_eq rfl) (by decide) (by decide) (by decide) (by decide) (hb hby at_128) ?_
    intro v232 T232 h232 L232 X232 e232 q232
    obtain ⟨sp6, hv232, qw6, Nf232, hh232⟩ := q232
    subst hv232
    have E232 : T232.heap = h231 := e232.trans hh232
    have N232 := Fr.app N231 Nf232
    show Go p.tables e below _ T232 (mkF m 131 #[.val (.int x0), .val (.int x1), .val (.long x2), .second, .val (.int x3), .val (.int x4), .val (.int (3 : Int32)), .val (.ref l214), .val (.int (0 : Int32)), .val (.int (1 : Int32)), .val (.ref b219), .unset, .unset, .unset, .unset] [(.int sp6), (.int (6 : Int32)), (.ref b219)])
    obtain ⟨T233, h233, X233, e233, W233, V233, st233⟩ := stCV X232 hx hZ E232 V231' (j := (6 : Int32)) (i := 6) (by decide) rfl (Nat.le_of_ble_eq_true rfl) (g := (mkF m 131 #[.val (.int x0), .val (.int x1), .val (.long x2), .second, .val (.int x3), .val (.int x4), .val (.int (3 : Int32)), .val (.ref l214), .val (.int (0 : Int32)), .val (.int (1 : Int32)), .val (.ref b219), .unset, .unset, .unset, .unset] [(.int sp6), (.int (6 : Int32)), (.ref b219)])) rfl rfl (hb hby at_131)
    rw [nar_cid (x := sp6) (by unfold wsr at qw6; omega)] at V233
    have V233' : Arv Z h233 b219 k219 .char (7 : Int32) [(.int sp0), (.int sp1), (.int sp2), (.int sp3), (.int sp4), (.int sp5), (.int sp6)] (.int (0 : Int32)) := V233
    have N233 := Fr.snoc X233 N232 (Nat.le_trans Z0 (Nat.le_trans E214.1 (Nat.le_of_eq g219.symm)))
    refine Go.st (T' := T233) (g' := (mkF m 132 #[.val (.int x0), .val (.int x1), .val (.long x2), .second, .val (.int x3), .val (.int x4), .val (.int (3 : Int32)), .val (.ref l214), .val (.int (0 : Int32)), .val (.int (1 : Int32)), .val (.ref b219), .unset, .unset, .unset, .unset] [])) (fun _ zk => st233 _ zk) ?_
    refine Go.st (T' := T233) (g' := (mkF m 133 #[.val (.int x0), .val (.int x1), .val (.long x2), .second, .val (.int x3), .val (.int x4), .val (.int (3 : Int32)), .val (.ref l214), .val (.int (0 : Int32)), .val (.int (1 : Int32)), .val (.ref b219), .unset, .unset, .unset, .unset] [(.int x1)])) (fun _ zk => XS.iloadN X233.here hx rfl (hb hby at_132) rfl zk) ?_
    refine Go.st (T' := T233) (g' := (mkF m 135 #[.val (.int x0), .val (.int x1), .val (.long x2), .second, .val (.int x3), .val (.int x4), .val (.int (3 : Int32)), .val (.ref l214), .val (.int (0 : Int32)), .val (.int (1 : Int32)), .val (.ref b219), .unset, .unset, .unset, .unset] [(.int (2147483647 : Int32)), (.int x1)])) (fun _ zk => X233.ldcI hx hown (mvT hZ (w27 hw)) rfl (hb hby at_133) zk) ?_
    refine Go.st (T' := T233) (g' := (mkF m 136 #[.val (.int x0), .val (.int x1), .val (.long x2), .second, .val (.int x3), .val (.int x4), .val (.int (3 : Int32)), .val (.ref l214), .val (.int (0 : Int32)), .val (.int (1 : Int32)), .val (.ref b219), .unset, .unset, .unset, .unset] [(.int (x1 &&& (2147483647 : Int32)))])) (fun _ zk => XS.iand X233.here hx rfl (hb hby at_135) rfl zk) ?_
    refine Go.st (T' := T233) (g' := (mkF m 138 #[.val (.int x0), .val (.int x1), .val (.long x2), .second, .val (.int x3), .val (.int x4), .val (.int (3 : Int32)), .val (.ref l214), .val (.int (0 : Int32)), .val (.int (1 : Int32)), .val (.ref b219), .unset, .unset, .unset, .unset] [(.int (8 : Int32)), (.int (x1 &&& (2147483647 : Int32)))])) (fun _ zk => XS.bipush X233.here hx rfl (hb hby at_136) zk) ?_
    refine Go.st (T' := T233) (g' := (mkF m 140 #[.val (.int x0), .val (.int x1), .val (.long x2), .second, .val (.int x3), .val (.int x4), .val (.int (3 : Int32)), .val (.ref l214), .val (.int (0 : Int32)), .val (.int (1 : Int32)), .val (.ref b219), .unset, .unset, .unset, .unset] [(.int (1 : Int32)), (.int (8 : Int32)), (.int (x1 &&& (2147483647 : Int32)))])) (fun _ zk => XS.iload X233.here hx rfl (hb hby at_138) rfl zk) ?_
    refine Go.st (T' := T233) (g' := (mkF m 141 #[.val (.int x0), .val (.int x1), .val (.long x2), .second, .val (.int x3), .val (.int x4), .val (.int (3 : Int32)), .val (.ref l214), .val (.int (0 : Int32)), .val (.int (1 : Int32)), .val (.ref b219), .unset, .unset, .unset, .unset] [(.int ((8 : Int32) - (1 : Int32))), (.int (x1 &&& (2147483647 : Int32)))])) (fun _ zk => XS.isub X233.here hx rfl (hb hby at_140) rfl zk) ?_
    rw [show ((8 : Int32) - (1 : Int32)) = (7 : Int32) from by decide]
    refine Go.st (T' := T233) (g' := (mkF m 142 #[.val (.int x0), .val (.int x1), .val (.long x2), .second, .val (.int x3), .val (.int x4), .val (.int (3 : Int32)), .val (.ref l214), .val (.int (0 : Int32)), .val (.int (1 : Int32)), .val (.ref b219), .unset, .unset, .unset, .unset] [(.int ((x1 &&& (2147483647 : Int32)) % (7 : Int32)))])) (fun _ zk => iremM X233 hx rfl (hb hby at_141) rfl (by decide) zk) ?_
    obtain ⟨pn, hpn, hlt⟩ := own_pn x1 (7 : Int32) 7 (by decide) (by decide)
    rw [hpn]
    have V234 : Arv Z h233 b219 k219 .char (7 : Int32) (([sp0, sp1, sp2, sp3, sp4, sp5, sp6] : List Int32).map Value.int) (.int (0 : Int32)) := V233'
    have hwl : ∀ c ∈ ([sp0, sp1, sp2, sp3, sp4, sp5, sp6] : List Int32), wsr c := by
      simp only [List.forall_mem_cons]
      exact ⟨qw0, qw1, qw2, qw3, qw4, qw5, qw6, fun _ q => nomatch q⟩
    refine Go.st (T' := T233) (g' := (mkF m 144 #[.val (.int x0), .val (.int x1), .val (.long x2), .second, .val (.int x3), .val (.int x4), .val (.int (3 : Int32)), .val (.ref l214), .val (.int (0 : Int32)), .val (.int (1 : Int32)), .val (.ref b219), .val (.int (Int32.ofNat pn)), .unset, .unset, .unset] [])) (fun _ zk => XS.istore X233.here hx rfl (hb hby at_142) rfl (l' := #[.val (.int x0), .val (.int x1), .val (.long x2), .second, .val (.int x3), .val (.int x4), .val (.int (3 : Int32)), .val (.ref l214), .val (.int (0 : Int32)), .val (.int (1 : Int32)), .val (.ref b219), .val (.int (Int32.ofNat pn)), .unset, .unset, .unset]) rfl zk) ?_
    refine Go.st (T' := T233) (g' := (mkF m 146 #[.val (.int x0), .val (.int x1), .val (.long x2), .second, .val (.int x3), .val (.int x4), .val (.int (3 : Int32)), .val (.ref l214), .val (.int (0 : Int32)), .val (.int (1 : Int32)), .val (.ref b219), .val (.int (Int32.ofNat pn)), .unset, .unset, .unset] [(.ref b219)])) (fun _ zk => XS.aload X233.here hx rfl (hb hby at_144) rfl rfl zk) ?_
    refine Go.st (T' := T233) (g' := (mkF m 148 #[.val (.int x0), .val (.int x1), .val (.long x2), .second, .val (.int x3), .val (.int x4), .val (.int (3 : Int32)), .val (.ref l214), .val (.int (0 : Int32)), .val (.int (1 : Int32)), .val (.ref b219), .val (.int (Int32.ofNat pn)), .unset, .unset, .unset] [(.int (Int32.ofNat pn)), (.ref b219)])) (fun _ zk => XS.iload X233.here hx rfl (hb hby at_146) rfl zk) ?_
    refine Go.st (T' := T233) (g' := (mkF m 150 #[.val (.int x0), .val (.int x1), .val (.long x2), .second, .val (.int x3), .val (.int x4), .val (.int (3 : Int32)), .val (.ref l214), .val (.int (0 : Int32)), .val (.int (1 : Int32)), .val (.ref b219), .val (.int (Int32.ofNat pn)), .unset, .unset, .unset] [(.ref l214), (.int (Int32.ofNat pn)), (.ref b219)])) (fun _ zk => XS.aload X233.here hx rfl (hb hby at_148) rfl rfl zk) ?_
    refine Go.st (T' := T233) (g' := (mkF m 151 #[.val (.int x0), .val (.int x1), .val (.long x2), .second, .val (.int x3), .val (.int x4), .val (.int (3 : Int32)), .val (.ref l214), .val (.int (0 : Int32)), .val (.int (1 : Int32)), .val (.ref b219), .val (.int (Int32.ofNat pn)), .unset, .unset, .unset] [(.int (0 : Int32)), (.ref l214), (.int (Int32.ofNat pn)), (.ref b219)])) (fun _ zk => XS.iconst X233.here hx rfl (hb hby at_150) zk) ?_
    have xt235 : Ext h214 h233 := (((((((E219.thenW W221 (Nat.le_of_eq g219.symm)).thenW W223 (Nat.le_of_eq g219.symm)).thenW W225 (Nat.le_of_eq g219.symm)).thenW W227 (Nat.le_of_eq g219.symm)).thenW W229 (Nat.le_of_eq g219.symm)).thenW W231 (Nat.le_of_eq g219.symm)).thenW W233 (Nat.le_of_eq g219.symm))
    have f236 := SL.ext xt235
    have f238 := f218.ext xt235
    have f239 := A214.ext xt235
    refine Go.callV (y := (⟨"java/lang/String", "charAt", "(I)C"⟩ : MethodName)) (z := (⟨"java/lang/String", "charAt", "(I)C"⟩ : MethodName)) (C := "java/lang/String") (a := l214) X233 hx hZ hown e233 (w28 hw) (w29 hw) (w31 hw) (w30 hw) (w1 hw) (w32 hw) (notFace_of_selects (args := #[]) (mvT hZ (w31 hw))) (by decide) f239 (argsL := [(.int (0 : Int32))]) (rest := [(.int (Int32.ofNat pn)), (.ref b219)]) (W := 2) (rm_charAtG l Z a0 hw [] l214 [(48 : Int32)] 0 zc fm h233 n0 (Nat.le_trans Z0 (Nat.le_trans (Nat.le_trans (Nat.le_trans (Nat.le_trans (Nat.le_trans (Nat.le_trans (Nat.le_trans (Nat.le_trans E214.1 E219.1) (Keep.of_wr W221).1) (Keep.of_wr W223).1) (Keep.of_wr W225).1) (Keep.of_wr W227).1) (Keep.of_wr W229).1) (Keep.of_wr W231).1) (Keep.of_wr W233).1)) f238 f236 (by decide) (by decide) CS hz FM rf) rfl (lenOf pd33 rfl) rfl (by rw [hml]; rfl) rfl (by show 2 * 0 + _ ≤ _; exact Nat.le_of_eq rfl) (by decide) (by decide) (by decide) (by decide) (hb hby at_151) ?_
    intro v237 T237 h237 L237 X237 e237 q237
    obtain ⟨hv237, Nf237, hh237⟩ := q237
    subst hv237
    have E237 : T237.heap = h233 := e237.trans hh237
    have N237 := Fr.app N233 Nf237
    show Go p.tables e below _ T237 (mkF m 154 #[.val (.int x0), .val (.int x1), .val (.long x2), .second, .val (.int x3), .val (.int x4), .val (.int (3 : Int32)), .val (.ref l214), .val (.int (0 : Int32)), .val (.int (1 : Int32)), .val (.ref b219), .val (.int (Int32.ofNat pn)), .unset, .unset, .unset] [(.int (((([(48 : Int32)] : List Int32).getD 0 0) &&& (255 : Int32)).toUInt32.toUInt16.toUInt32.toInt32)), (.int (Int32.ofNat pn)), (.ref b219)])
    rw [show (((([(48 : Int32)] : List Int32).getD 0 0) &&& (255 : Int32)).toUInt32.toUInt16.toUInt32.toInt32) = (48 : Int32) from by decide]
    obtain ⟨T240, h240, X240, e240, W240, V240, st240⟩ := stCV X237 hx hZ E237 V234 (j := (Int32.ofNat pn)) (i := pn) ⟨own_ofn0 (by omega), own_oflt (n := 7) (by omega) (by omega)⟩ (own_clamp (by omega)) (by simp only [List.length_map, List.length_set, List.length_cons, List.length_nil]; omega) (g := (mkF m 154 #[.val (.int x0), .val (.int x1), .val (.long x2), .second, .val (.int x3), .val (.int x4), .val (.int (3 : Int32)), .val (.ref l214), .val (.int (0 : Int32)), .val (.int (1 : Int32)), .val (.ref b219), .val (.int (Int32.ofNat pn)), .unset, .unset, .unset] [(.int (48 : Int32)), (.int (Int32.ofNat pn)), (.ref b219)])) rfl rfl (hb hby at_154)
    rw [show nar .char (48 : Int32) = (48 : Int32) from by decide, ← List.map_set] at V240
    have N240 := Fr.snoc X240 N237 (Nat.le_trans Z0 (Nat.le_trans E214.1 (Nat.le_of_eq g219.symm)))
    refine Go.st (T' := T240) (g' := (mkF m 155 #[.val (.int x0), .val (.int x1), .val (.long x2), .second, .val (.int x3), .val (.int x4), .val (.int (3 : Int32)), .val (.ref l214), .val (.int (0 : Int32)), .val (.int (1 : Int32)), .val (.ref b219), .val (.int (Int32.ofNat pn)), .unset, .unset, .unset] [])) (fun _ zk => st240 _ zk) ?_
    refine Go.st (T' := T240) (g' := (mkF m 157 #[.val (.int x0), .val (.int x1), .val (.long x2), .second, .val (.int x3), .val (.int x4), .val (.int (3 : Int32)), .val (.ref l214), .val (.int (0 : Int32)), .val (.int (1 : Int32)), .val (.ref b219), .val (.int (Int32.ofNat pn)), .unset, .unset, .unset] [(.int (1 : Int32))])) (fun _ zk => XS.iload X240.here hx rfl (hb hby at_155) rfl zk) ?_
    refine Go.st (T' := T240) (g' := (mkF m 158 #[.val (.int x0), .val (.int x1), .val (.long x2), .second, .val (.int x3), .val (.int x4), .val (.int (3 : Int32)), .val (.ref l214), .val (.int (0 : Int32)), .val (.int (1 : Int32)), .val (.ref b219), .val (.int (Int32.ofNat pn)), .unset, .unset, .unset] [(.int (1 : Int32)), (.int (1 : Int32))])) (fun _ zk => XS.iconst X240.here hx rfl (hb hby at_157) zk) ?_
    refine Go.st (T' := T240) (g' := (mkF m 174 #[.val (.int x0), .val (.int x1), .val (.long x2), .second, .val (.int x3), .val (.int x4), .val (.int (3 : Int32)), .val (.ref l214), .val (.int (0 : Int32)), .val (.int (1 : Int32)), .val (.ref b219), .val (.int (Int32.ofNat pn)), .unset, .unset, .unset] [])) (fun _ zk => XS.icmpYes X240.here hx rfl (pc0 := 158) (pc' := 174) rfl (hb hby at_158) rfl (flt ((by decide) : ¬ ((1 : Int32) < (1 : Int32)))).2.2.2 (by decide) (by decide) zk) ?_
    refine Go.st (T' := T240) (g' := (mkF m 176 #[.val (.int x0), .val (.int x1), .val (.long x2), .second, .val (.int x3), .val (.int x4), .val (.int (3 : Int32)), .val (.ref l214), .val (.int (0 : Int32)), .val (.int (1 : Int32)), .val (.ref b219), .val (.int (Int32.ofNat pn)), .unset, .unset, .unset] [(.int (1 : Int32))])) (fun _ zk => XS.iload X240.here hx rfl (hb hby at_174) rfl zk) ?_
    refine Go.st (T' := T240) (g' := (mkF m 177 #[.val (.int x0), .val (.int x1), .val (.long x2), .second, .val (.int x3), .val (.int x4), .val (.int (3 : Int32)), .val (.ref l214), .val (.int (0 : Int32)), .val (.int (1 : Int32)), .val (.ref b219), .val (.int (Int32.ofNat pn)), .unset, .unset, .unset] [(.int (2 : Int32)), (.int (1 : Int32))])) (fun _ zk => XS.iconst X240.here hx rfl (hb hby at_176) zk) ?_
    refine Go.st (T' := T240) (g' := (mkF m 193 #[.val (.int x0), .val (.int x1), .val (.long x2), .second, .val (.int x3), .val (.int x4), .val (.int (3 : Int32)), .val (.ref l214), .val (.int (0 : Int32)), .val (.int (1 : Int32)), .val (.ref b219), .val (.int (Int32.ofNat pn)), .unset, .unset, .unset] [])) (fun _ zk => XS.icmpYes X240.here hx rfl (pc0 := 177) (pc' := 193) rfl (hb hby at_177) rfl (flt ((by decide) : ¬ ((2 : Int32) < (1 : Int32)))).2.2.2 (by decide) (by decide) zk) ?_
    refine Go.st (T' := T240) (g' := (mkF m 195 #[.val (.int x0), .val (.int x1), .val (.long x2), .second, .val (.int x3), .val (.int x4), .val (.int (3 : Int32)), .val (.ref l214), .val (.int (0 : Int32)), .val (.int (1 : Int32)), .val (.ref b219), .val (.int (Int32.ofNat pn)), .unset, .unset, .unset] [(.int (1 : Int32))])) (fun _ zk => XS.iload X240.here hx rfl (hb hby at_193) rfl zk) ?_
    refine Go.st (T' := T240) (g' := (mkF m 196 #[.val (.int x0), .val (.int x1), .val (.long x2), .second, .val (.int x3), .val (.int x4), .val (.int (3 : Int32)), .val (.ref l214), .val (.int (0 : Int32)), .val (.int (1 : Int32)), .val (.ref b219), .val (.int (Int32.ofNat pn)), .unset, .unset, .unset] [(.int (3 : Int32)), (.int (1 : Int32))])) (fun _ zk => XS.iconst X240.here hx rfl (hb hby at_195) zk) ?_
    refine Go.st (T' := T240) (g' := (mkF m 212 #[.val (.int x0), .val (.int x1), .val (.long x2), .second, .val (.int x3), .val (.int x4), .val (.int (3 : Int32)), .val (.ref l214), .val (.int (0 : Int32)), .val (.int (1 : Int32)), .val (.ref b219), .val (.int (Int32.ofNat pn)), .unset, .unset, .unset] [])) (fun _ zk => XS.icmpYes X240.here hx rfl (pc0 := 196) (pc' := 212) rfl (hb hby at_196) rfl (flt ((by decide) : ¬ ((3 : Int32) < (1 : Int32)))).2.2.2 (by decide) (by decide) zk) ?_
    refine Go.st (T' := T240) (g' := (mkF m 214 #[.val (.int x0), .val (.int x1), .val (.long x2), .second, .val (.int x3), .val (.int x4), .val (.int (3 : Int32)), .val (.ref l214), .val (.int (0 : Int32)), .val (.int (1 : Int32)), .val (.ref b219), .val (.int (Int32.ofNat pn)), .unset, .unset, .unset] [(.int (1 : Int32))])) (fun _ zk => XS.iload X240.here hx rfl (hb hby at_212) rfl zk) ?_
    refine Go.st (T' := T240) (g' := (mkF m 215 #[.val (.int x0), .val (.int x1), .val (.long x2), .second, .val (.int x3), .val (.int x4), .val (.int (3 : Int32)), .val (.ref l214), .val (.int (0 : Int32)), .val (.int (1 : Int32)), .val (.ref b219), .val (.int (Int32.ofNat pn)), .unset, .unset, .unset] [(.int (4 : Int32)), (.int (1 : Int32))])) (fun _ zk => XS.iconst X240.here hx rfl (hb hby at_214) zk) ?_
    refine Go.st (T' := T240) (g' := (mkF m 231 #[.val (.int x0), .val (.int x1), .val (.long x2), .second, .val (.int x3), .val (.int x4), .val (.int (3 : Int32)), .val (.ref l214), .val (.int (0 : Int32)), .val (.int (1 : Int32)), .val (.ref b219), .val (.int (Int32.ofNat pn)), .unset, .unset, .unset] [])) (fun _ zk => XS.icmpYes X240.here hx rfl (pc0 := 215) (pc' := 231) rfl (hb hby at_215) rfl (flt ((by decide) : ¬ ((4 : Int32) < (1 : Int32)))).2.2.2 (by decide) (by decide) zk) ?_
    refine Go.st (T' := T240) (g' := (mkF m 233 #[.val (.int x0), .val (.int x1), .val (.long x2), .second, .val (.int x3), .val (.int x4), .val (.int (3 : Int32)), .val (.ref l214), .val (.int (0 : Int32)), .val (.int (1 : Int32)), .val (.ref b219), .val (.int (Int32.ofNat pn)), .unset, .unset, .unset] [(.int x3)])) (fun _ zk => XS.iload X240.here hx rfl (hb hby at_231) rfl zk) ?_
    refine Go.st (T' := T240) (g' := (mkF m 234 #[.val (.int x0), .val (.int x1), .val (.long x2), .second, .val (.int x3), .val (.int x4), .val (.int (3 : Int32)), .val (.ref l214), .val (.int (0 : Int32)), .val (.int (1 : Int32)), .val (.ref b219), .val (.int (Int32.ofNat pn)), .unset, .unset, .unset] [(.int (1 : Int32)), (.int x3)])) (fun _ zk => XS.iconst X240.here hx rfl (hb hby at_233) zk) ?_
    refine Go.st (T' := T240) (g' := (mkF m 235 #[.val (.int x0), .val (.int x1), .val (.long x2), .second, .val (.int x3), .val (.int x4), .val (.int (3 : Int32)), .val (.ref l214), .val (.int (0 : Int32)), .val (.int (1 : Int32)), .val (.ref b219), .val (.int (Int32.ofNat pn)), .unset, .unset, .unset] [(.int (x3 &&& (1 : Int32)))])) (fun _ zk => XS.iand X240.here hx rfl (hb hby at_234) rfl zk) ?_
    by_cases hc235 : (x3 &&& (1 : Int32)) = (0 : Int32)
    · refine Go.st (T' := T240) (g' := (mkF m 250 #[.val (.int x0), .val (.int x1), .val (.long x2), .second, .val (.int x3), .val (.int x4), .val (.int (3 : Int32)), .val (.ref l214), .val (.int (0 : Int32)), .val (.int (1 : Int32)), .val (.ref b219), .val (.int (Int32.ofNat pn)), .unset, .unset, .unset] [])) (fun _ zk => XS.ifYes X240.here hx rfl (pc0 := 235) (pc' := 250) rfl (hb hby at_235) rfl ((if0 _ _).trans (teq hc235).1) (by decide) (by decide) zk) ?_
      refine Go.st (T' := T240) (g' := (mkF m 252 #[.val (.int x0), .val (.int x1), .val (.long x2), .second, .val (.int x3), .val (.int x4), .val (.int (3 : Int32)), .val (.ref l214), .val (.int (0 : Int32)), .val (.int (1 : Int32)), .val (.ref b219), .val (.int (Int32.ofNat pn)), .unset, .unset, .unset] [(.ref l214)])) (fun _ zk => XS.aload X240.here hx rfl (hb hby at_250) rfl rfl zk) ?_
      refine Go.st (T' := T240) (g' := (mkF m 254 #[.val (.int x0), .val (.int x1), .val (.long x2), .second, .val (.int x3), .val (.int x4), .val (.int (3 : Int32)), .val (.ref l214), .val (.int (0 : Int32)), .val (.int (1 : Int32)), .val (.ref b219), .val (.int (Int32.ofNat pn)), .val (.ref l214), .unset, .unset] [])) (fun _ zk => XS.astore X240.here hx rfl (hb hby at_252) rfl rfl (l' := #[.val (.int x0), .val (.int x1), .val (.long x2), .second, .val (.int x3), .val (.int x4), .val (.int (3 : Int32)), .val (.ref l214), .val (.int (0 : Int32)), .val (.int (1 : Int32)), .val (.ref b219), .val (.int (Int32.ofNat pn)), .val (.ref l214), .unset, .unset]) rfl zk) ?_
      refine Go.st (T' := T240) (g' := (mkF m 256 #[.val (.int x0), .val (.int x1), .val (.long x2), .second, .val (.int x3), .val (.int x4), .val (.int (3 : Int32)), .val (.ref l214), .val (.int (0 : Int32)), .val (.int (1 : Int32)), .val (.ref b219), .val (.int (Int32.ofNat pn)), .val (.ref l214), .unset, .unset] [(.int x4)])) (fun _ zk => XS.iload X240.here hx rfl (hb hby at_254) rfl zk) ?_
      refine Go.st (T' := T240) (g' := (mkF m 259 #[.val (.int x0), .val (.int x1), .val (.long x2), .second, .val (.int x3), .val (.int x4), .val (.int (3 : Int32)), .val (.ref l214), .val (.int (0 : Int32)), .val (.int (1 : Int32)), .val (.ref b219), .val (.int (Int32.ofNat pn)), .val (.ref l214), .unset, .unset] [(.int (255 : Int32)), (.int x4)])) (fun _ zk => XS.sipush X240.here hx rfl (hb hby at_256) zk) ?_
      refine Go.st (T' := T240) (g' := (mkF m 260 #[.val (.int x0), .val (.int x1), .val (.long x2), .second, .val (.int x3), .val (.int x4), .val (.int (3 : Int32)), .val (.ref l214), .val (.int (0 : Int32)), .val (.int (1 : Int32)), .val (.ref b219), .val (.int (Int32.ofNat pn)), .val (.ref l214), .unset, .unset] [(.int (x4 &&& (255 : Int32)))])) (fun _ zk => XS.iand X240.here hx rfl (hb hby at_259) rfl zk) ?_
      refine Go.st (T' := T240) (g' := (mkF m 261 #[.val (.int x0), .val (.int x1), .val (.long x2), .second, .val (.int x3), .val (.int x4), .val (.int (3 : Int32)), .val (.ref l214), .val (.int (0 : Int32)), .val (.int (1 : Int32)), .val (.ref b219), .val (.int (Int32.ofNat pn)), .val (.ref l214), .unset, .unset] [(.int ((x4 &&& (255 : Int32)).toUInt32.toUInt16.toUInt32.toInt32))])) (fun _ zk => XS.i2c X240.here hx rfl (hb hby at_260) rfl zk) ?_
      have f242 := (f238.wr W240 (Nat.le_trans Z0 (Nat.le_trans E214.1 (Nat.le_of_eq g219.symm))))
      refine Go.callSt (y := (⟨"java/lang/String", "valueOf", "(C)Ljava/lang/String;"⟩ : MethodName)) X240 hx hZ hown e240 (w50 hw) (w51 hw) (w1 hw) (w52 hw) (by decide) (argsL := [(.int ((x4 &&& (255 : Int32)).toUInt32.toUInt16.toUInt32.toInt32))]) (rest := []) (W := 0) (rm_valueOfC l Z a0 hw [] ((x4 &&& (255 : Int32)).toUInt32.toUInt16.toUInt32.toInt32) zc h240 n0 (Nat.le_trans Z0 (Nat.le_trans (Nat.le_trans (Nat.le_trans (Nat.le_trans (Nat.le_trans (Nat.le_trans (Nat.le_trans (Nat.le_trans (Nat.le_trans E214.1 E219.1) (Keep.of_wr W221).1) (Keep.of_wr W223).1) (Keep.of_wr W225).1) (Keep.of_wr W227).1) (Keep.of_wr W229).1) (Keep.of_wr W231).1) (Keep.of_wr W233).1) (Keep.of_wr W240).1)) f242 (le255 (and255 x4)) CS hz) rfl (lenOf pd34 rfl) rfl (by rw [hml]; rfl) rfl (by show 2 * 0 + _ ≤ _; exact Nat.le_of_eq rfl) (by decide) (by decide) (by decide) (by decide) (hb hby at_261) ?_
      intro v241 T241 h241 L241 X241 e241 q241
      obtain ⟨a241, hv241, Nf241, E241, ge241, S241⟩ := q241
      subst hv241
      have N241 := Fr.app N240 Nf241
      show Go p.tables e below _ T241 (mkF m 264 #[.val (.int x0), .val (.int x1), .val (.long x2), .second, .val (.int x3), .val (.int x4), .val (.int (3 : Int32)), .val (.ref l214), .val (.int (0 : Int32)), .val (.int (1 : Int32)), .val (.ref b219), .val (.int (Int32.ofNat pn)), .val (.ref l214), .unset, .unset] [(.ref a241)])
      refine Go.st (T' := T241) (g' := (mkF m 266 #[.val (.int x0), .val (.int x1), .val (.long x2), .second, .val (.int x3), .val (.int x4), .val (.int (3 : Int32)), .val (.ref l214), .val (.int (0 : Int32)), .val (.int (1 : Int32)), .val (.ref b219), .val (.int (Int32.ofNat pn)), .val (.ref l214), .val (.ref a241), .unset] [])) (fun _ zk => XS.astore X241.here hx rfl (hb hby at_264) rfl rfl (l' := #[.val (.int x0), .val (.int x1), .val (.long x2), .second, .val (.int x3), .val (.int x4), .val (.int (3 : Int32)), .val (.ref l214), .val (.int (0 : Int32)), .val (.int (1 : Int32)), .val (.ref b219), .val (.int (Int32.ofNat pn)), .val (.ref l214), .val (.ref a241), .unset]) rfl zk) ?_
      refine Go.st (T' := T241) (g' := (mkF m 268 #[.val (.int x0), .val (.int x1), .val (.long x2), .second, .val (.int x3), .val (.int x4), .val (.int (3 : Int32)), .val (.ref l214), .val (.int (0 : Int32)), .val (.int (1 : Int32)), .val (.ref b219), .val (.int (Int32.ofNat pn)), .val (.ref l214), .val (.ref a241), .unset] [(.int x4)])) (fun _ zk => XS.iload X241.here hx rfl (hb hby at_266) rfl zk) ?_
      refine Go.st (T' := T241) (g' := (mkF m 270 #[.val (.int x0), .val (.int x1), .val (.long x2), .second, .val (.int x3), .val (.int x4), .val (.int (3 : Int32)), .val (.ref l214), .val (.int (0 : Int32)), .val (.int (1 : Int32)), .val (.ref b219), .val (.int (Int32.ofNat pn)), .val (.ref l214), .val (.ref a241), .unset] [(.int (8 : Int32)), (.int x4)])) (fun _ zk => XS.bipush X241.here hx rfl (hb hby at_268) zk) ?_
      refine Go.st (T' := T241) (g' := (mkF m 271 #[.val (.int x0), .val (.int x1), .val (.long x2), .second, .val (.int x3), .val (.int x4), .val (.int (3 : Int32)), .val (.ref l214), .val (.int (0 : Int32)), .val (.int (1 : Int32)), .val (.ref b219), .val (.int (Int32.ofNat pn)), .val (.ref l214), .val (.ref a241), .unset] [(.int ((x4.toUInt32 >>> ((8 : Int32) &&& 31).toUInt32).toInt32))])) (fun _ zk => XS.iushr X241.here hx rfl (hb hby at_270) rfl zk) ?_
      refine Go.st (T' := T241) (g' := (mkF m 274 #[.val (.int x0), .val (.int x1), .val (.long x2), .second, .val (.int x3), .val (.int x4), .val (.int (3 : Int32)), .val (.ref l214), .val (.int (0 : Int32)), .val (.int (1 : Int32)), .val (.ref b219), .val (.int (Int32.ofNat pn)), .val (.ref l214), .val (.ref a241), .unset] [(.int (255 : Int32)), (.int ((x4.toUInt32 >>> ((8 : Int32) &&& 31).toUInt32).toInt32))])) (fun _ zk => XS.sipush X241.here hx rfl (hb hby at_271) zk) ?_
      refine Go.st (T' := T241) (g' := (mkF m 275 #[.val (.int x0), .val (.int x1), .val (.long x2), .second, .val (.int x3), .val (.int x4), .val (.int (3 : Int32)), .val (.ref l214), .val (.int (0 : Int32)), .val (.int (1 : Int32)), .val (.ref b219), .val (.int (Int32.ofNat pn)), .val (.ref l214), .val (.ref a241), .unset] [(.int (((x4.toUInt32 >>> ((8 : Int32) &&& 31).toUInt32).toInt32) &&& (255 : Int32)))])) (fun _ zk => XS.iand X241.here hx rfl (hb hby at_274) rfl zk) ?_
      refine Go.st (T' := T241) (g' := (mkF m 276 #[.val (.int x0), .val (.int x1), .val (.long x2), .second, .val (.int x3), .val (.int x4), .val (.int (3 : Int32)), .val (.ref l214), .val (.int (0 : Int32)), .val (.int (1 : Int32)), .val (.ref b219), .val (.int (Int32.ofNat pn)), .val (.ref l214), .val (.ref a241), .unset] [(.int ((((x4.toUInt32 >>> ((8 : Int32) &&& 31).toUInt32).toInt32) &&& (255 : Int32)).toUInt32.toUInt16.toUInt32.toInt32))])) (fun _ zk => XS.i2c X241.here hx rfl (hb hby at_275) rfl zk) ?_
      have xt244 : Ext h240 h241 := E241
      have f245 := f242.ext xt244
      refine Go.callSt (y := (⟨"java/lang/String", "valueOf", "(C)Ljava/lang/String;"⟩ : MethodName)) X241 hx hZ hown e241 (w50 hw) (w51 hw) (w1 hw) (w52 hw) (by decide) (argsL := [(.int ((((x4.toUInt32 >>> ((8 : Int32) &&& 31).toUInt32).toInt32) &&& (255 : Int32)).toUInt32.toUInt16.toUInt32.toInt32))]) (rest := []) (W := 0) (rm_valueOfC l Z a0 hw [] ((((x4.toUInt32 >>> ((8 : Int32) &&& 31).toUInt32).toInt32) &&& (255 : Int32)).toUInt32.toUInt16.toUInt32.toInt32) zc h241 n0 (Nat.le_trans Z0 (Nat.le_trans (Nat.le_trans (Nat.le_trans (Nat.le_trans (Nat.le_trans (Nat.le_trans (Nat.le_trans (Nat.le_trans (Nat.le_trans (Nat.le_trans E214.1 E219.1) (Keep.of_wr W221).1) (Keep.of_wr W223).1) (Keep.of_wr W225).1) (Keep.of_wr W227).1) (Keep.of_wr W229).1) (Keep.of_wr W231).1) (Keep.of_wr W233).1) (Keep.of_wr W240).1) E241.1)) f245 (le255 (and255 ((x4.toUInt32 >>> ((8 : Int32) &&& 31).toUInt32).toInt32))) CS hz) rfl (lenOf pd34 rfl) rfl (by rw [hml]; rfl) rfl (by show 2 * 0 + _ ≤ _; exact Nat.le_of_eq rfl) (by decide) (by decide) (by decide) (by decide) (hb hby at_276) ?_
      intro v243 T243 h243 L243 X243 e243 q243
      obtain ⟨a243, hv243, Nf243, E243, ge243, S243⟩ := q243
      subst hv243
      have N243 := Fr.app N241 Nf243
      show Go p.tables e below _ T243 (mkF m 279 #[.val (.int x0), .val (.int x1), .val (.long x2), .second, .val (.int x3), .val (.int x4), .val (.int (3 : Int32)), .val (.ref l214), .val (.int (0 : Int32)), .val (.int (1 : Int32)), .val (.ref b219), .val (.int (Int32.ofNat pn)), .val (.ref l214), .val (.ref a241), .unset] [(.ref a243)])
      refine Go.st (T' := T243) (g' := (mkF m 281 #[.val (.int x0), .val (.int x1), .val (.long x2), .second, .val (.int x3), .val (.int x4), .val (.int (3 : Int32)), .val (.ref l214), .val (.int (0 : Int32)), .val (.int (1 : Int32)), .val (.ref b219), .val (.int (Int32.ofNat pn)), .val (.ref l214), .val (.ref a241), .val (.ref a243)] [])) (fun _ zk => XS.astore X243.here hx rfl (hb hby at_279) rfl rfl (l' := #[.val (.int x0), .val (.int x1), .val (.long x2), .second, .val (.int x3), .val (.int x4), .val (.int (3 : Int32)), .val (.ref l214), .val (.int (0 : Int32)), .val (.int (1 : Int32)), .val (.ref b219), .val (.int (Int32.ofNat pn)), .val (.ref l214), .val (.ref a241), .val (.ref a243)]) rfl zk) ?_
      refine Go.st (T' := T243) (g' := (mkF m 283 #[.val (.int x0), .val (.int x1), .val (.long x2), .second, .val (.int x3), .val (.int x4), .val (.int (3 : Int32)), .val (.ref l214), .val (.int (0 : Int32)), .val (.int (1 : Int32)), .val (.ref b219), .val (.int (Int32.ofNat pn)), .val (.ref l214), .val (.ref a241), .val (.ref a243)] [(.ref a241)])) (fun _ zk => XS.aload X243.here hx rfl (hb hby at_281) rfl rfl zk) ?_
      refine Go.st (T' := T243) (g' := (mkF m 285 #[.val (.int x0), .val (.int x1), .val (.long x2), .second, .val (.int x3), .val (.int x4), .val (.int (3 : Int32)), .val (.ref l214), .val (.int (0 : Int32)), .val (.int (1 : Int32)), .val (.ref b219), .val (.int (Int32.ofNat pn)), .val (.ref l214), .val (.ref a241), .val (.ref a243)] [(.ref a243), (.ref a241)])) (fun _ zk => XS.aload X243.here hx rfl (hb hby at_283) rfl rfl zk) ?_
      refine Go.st (T' := T243) (g' := (mkF m 287 #[.val (.int x0), .val (.int x1), .val (.long x2), .second, .val (.int x3), .val (.int x4), .val (.int (3 : Int32)), .val (.ref l214), .val (.int (0 : Int32)), .val (.int (1 : Int32)), .val (.ref b219), .val (.int (Int32.ofNat pn)), .val (.ref l214), .val (.ref a241), .val (.ref a243)] [(.ref l214), (.ref a243), (.ref a241)])) (fun _ zk => XS.aload X243.here hx rfl (hb hby at_285) rfl rfl zk) ?_
      have xt246 : Ext h214 h243 := (((xt235.thenW W240 (Nat.le_of_eq g219.symm)).tr E241).tr E243)
      have f247 := SL.ext xt246
      have xt249 : Ext h241 h243 := E243
      have f250 := f245.ext xt249
      have cr251 := chrE ca215 xt246
      refine Go.callStS (y := (⟨"com/example/tokenweave/tokenweave/engine/BpmnReader", "xmlBoolean", "(Ljava/lang/String;Ljava/lang/String;Ljava/lang/String;)Z"⟩ : MethodName)) X243 hx hZ hown e243 hEL cr251.1 hS (Nat.le_trans hk214 (Nat.le_trans (Nat.le_trans (Nat.le_trans (Nat.le_trans (Nat.le_trans (Nat.le_trans (Nat.le_trans (Nat.le_trans (Nat.le_trans (Nat.le_trans E219.1 (Keep.of_wr W221).1) (Keep.of_wr W223).1) (Keep.of_wr W225).1) (Keep.of_wr W227).1) (Keep.of_wr W229).1) (Keep.of_wr W231).1) (Keep.of_wr W233).1) (Keep.of_wr W240).1) E241.1) E243.1)) (w67 hw) (w68 hw) (w69 hw) (w70 hw) (by decide) (argsL := [(.ref a241), (.ref a243), (.ref l214)]) (rest := []) (W := 0) (rm_xmlBool l Z a0 hw [] a241 a243 l214 [(48 : Int32)] [(48 : Int32)] 0 1 zc ci dA kA h243 n0 (Nat.le_trans Z0 (Nat.le_trans (Nat.le_trans (Nat.le_trans (Nat.le_trans (Nat.le_trans (Nat.le_trans (Nat.le_trans (Nat.le_trans (Nat.le_trans (Nat.le_trans (Nat.le_trans E214.1 E219.1) (Keep.of_wr W221).1) (Keep.of_wr W223).1) (Keep.of_wr W225).1) (Keep.of_wr W227).1) (Keep.of_wr W229).1) (Keep.of_wr W231).1) (Keep.of_wr W233).1) (Keep.of_wr W240).1) E241.1) E243.1)) f250 f247 (by decide) (by decide) (by decide) (by decide) (fun i q => absurd q (Nat.not_lt_zero _)) (by unfold WS; decide +kernel) (fun i q1 q2 => absurd q2 (Nat.not_lt_of_le q1)) (by unfold WS; decide +kernel) rfl (Or.inr (Or.inr (Or.inr rfl))) CS hz SI EI SA FA) all0 rfl (lenOf pd35 rfl) rfl (by rw [hml]; rfl) rfl (by show 2 * 0 + _ ≤ _; exact Nat.le_of_eq rfl) (by decide) (by decide) (by decide) (by decide) (hb hby at_287) ?_
      intro v248 T248 h248 L248 X248 e248 q248 hS hZ hown cr248
      obtain ⟨rx, hv248, hcase, Nf248, E248⟩ := q248
      subst hv248
      have N248 := Fr.app N243 Nf248
      have hrx : rx = (0 : Int32) := by
        rcases hcase with z | z
        · exact absurd z.2 (by decide)
        · exact z.1
      have ca252 := cr251.trans cr248
      show Go p.tables e below _ T248 (mkF m 290 #[.val (.int x0), .val (.int x1), .val (.long x2), .second, .val (.int x3), .val (.int x4), .val (.int (3 : Int32)), .val (.ref l214), .val (.int (0 : Int32)), .val (.int (1 : Int32)), .val (.ref b219), .val (.int (Int32.ofNat pn)), .val (.ref l214), .val (.ref a241), .val (.ref a243)] [(.int rx)])
      refine Go.st (T' := T248) (g' := (mkF m 292 #[.val (.int x0), .val (.int x1), .val (.long x2), .second, .val (.int x3), .val (.int x4), .val (.int (3 : Int32)), .val (.ref l214), .val (.int (0 : Int32)), .val (.int (1 : Int32)), .val (.ref b219), .val (.int (Int32.ofNat pn)), .val (.ref l214), .val (.ref a241), .val (.ref a243)] [(.int (0 : Int32)), (.int rx)])) (fun _ zk => XS.iload X248.here hx rfl (hb hby at_290) rfl zk) ?_
      refine Go.st (T' := T248) (g' := (mkF m 295 #[.val (.int x0), .val (.int x1), .val (.long x2), .second, .val (.int x3), .val (.int x4), .val (.int (3 : Int32)), .val (.ref l214), .val (.int (0 : Int32)), .val (.int (1 : Int32)), .val (.ref b219), .val (.int (Int32.ofNat pn)), .val (.ref l214), .val (.ref a241), .val (.ref a243)] [])) (fun _ zk => XS.icmpNo X248.here hx rfl (hb hby at_292) rfl (teq (hrx : rx = (0 : Int32))).2 zk) ?_
      refine Go.st (T' := T248) (g' := (mkF m 296 #[.val (.int x0), .val (.int x1), .val (.long x2), .second, .val (.int x3), .val (.int x4), .val (.int (3 : Int32)), .val (.ref l214), .val (.int (0 : Int32)), .val (.int (1 : Int32)), .val (.ref b219), .val (.int (Int32.ofNat pn)), .val (.ref l214), .val (.ref a241), .val (.ref a243)] [(.int (1 : Int32))])) (fun _ zk => XS.iconst X248.here hx rfl (hb hby at_295) zk) ?_
      refine Go.st (T' := T248) (g' := (mkF m 300 #[.val (.int x0), .val (.int x1), .val (.long x2), .second, .val (.int x3), .val (.int x4), .val (.int (3 : Int32)), .val (.ref l214), .val (.int (0 : Int32)), .val (.int (1 : Int32)), .val (.ref b219), .val (.int (Int32.ofNat pn)), .val (.ref l214), .val (.ref a241), .val (.ref a243)] [(.int (1 : Int32))])) (fun _ zk => XS.goto X248.here hx rfl (pc0 := 296) (pc' := 300) rfl (hb hby at_296) (by decide) (by decide) zk) ?_
      refine Go.retNS X248 hx hlk hS (Nat.le_refl _) ca252 hZ hEL hret rfl (by simp) (hb hby at_300) (by decide) (by decide) e248 ?_
      exact ⟨rfl, N248⟩
    · refine Go.st (T' := T240) (g' := (mkF m 238 #[.val (.int x0), .val (.int x1), .val (.long x2), .second, .val (.int x3), .val (.int x4), .val (.int (3 : Int32)), .val (.ref l214), .val (.int (0 : Int32)), .val (.int (1 : Int32)), .val (.ref b219), .val (.int (Int32.ofNat pn)), .unset, .unset, .unset] [])) (fun _ zk => XS.ifNo X240.here hx rfl (hb hby at_235) rfl ((if0 _ _).trans (feq hc235).1) zk) ?_
      obtain ⟨T253, h253, X253, e253, E253, A253, D253, -, st253⟩ := newO X240 hx hZ hown (w108 hw) (w2 hw) (w1 hw) e240 (g := (mkF m 238 #[.val (.int x0), .val (.int x1), .val (.long x2), .second, .val (.int x3), .val (.int x4), .val (.int (3 : Int32)), .val (.ref l214), .val (.int (0 : Int32)), .val (.int (1 : Int32)), .val (.ref b219), .val (.int (Int32.ofNat pn)), .unset, .unset, .unset] [])) rfl (hb hby at_238) (by decide) (by decide)
      obtain ⟨b253, g253⟩ : ∃ z, z = h240.size := ⟨_, rfl⟩
      rw [← g253] at A253 D253 st253
      have F253_value : Fld Z h253 b253 "java/lang/String" "value" "[B" .null := D253 (Or.inr (w4 hw)) (ty := (.array .byte)) (by decide)
      have F253_coder : Fld Z h253 b253 "java/lang/String" "coder" "B" (.int (0 : Int32)) := D253 (Or.inr (w5 hw)) (ty := .byte) (by decide)
      refine Go.st (T' := T253) (g' := (mkF m 241 #[.val (.int x0), .val (.int x1), .val (.long x2), .second, .val (.int x3), .val (.int x4), .val (.int (3 : Int32)), .val (.ref l214), .val (.int (0 : Int32)), .val (.int (1 : Int32)), .val (.ref b219), .val (.int (Int32.ofNat pn)), .unset, .unset, .unset] [(.ref b253)])) (fun _ zk => st253 _ zk) ?_
      refine Go.st (T' := T253) (g' := (mkF m 242 #[.val (.int x0), .val (.int x1), .val (.long x2), .second, .val (.int x3), .val (.int x4), .val (.int (3 : Int32)), .val (.ref l214), .val (.int (0 : Int32)), .val (.int (1 : Int32)), .val (.ref b219), .val (.int (Int32.ofNat pn)), .unset, .unset, .unset] [(.ref b253), (.ref b253)])) (fun _ zk => XS.dup X253.here hx rfl (hb hby at_241) rfl rfl zk) ?_
      refine Go.st (T' := T253) (g' := (mkF m 244 #[.val (.int x0), .val (.int x1), .val (.long x2), .second, .val (.int x3), .val (.int x4), .val (.int (3 : Int32)), .val (.ref l214), .val (.int (0 : Int32)), .val (.int (1 : Int32)), .val (.ref b219), .val (.int (Int32.ofNat pn)), .unset, .unset, .unset] [(.ref b219), (.ref b253), (.ref b253)])) (fun _ zk => XS.aload X253.here hx rfl (hb hby at_242) rfl rfl zk) ?_
      have xt254 : Ext h240 h253 := E253
      have f255 := V240.ext xt254
      have f257 := ((f238.wr W240 (Nat.le_trans Z0 (Nat.le_trans E214.1 (Nat.le_of_eq g219.symm)))).ext E253)
      refine Go.callSp (y := (⟨"java/lang/String", "<init>", "([C)V"⟩ : MethodName)) (a := b253) X253 hx hZ hown e253 rfl (w109 hw) (w110 hw) (w1 hw) (w111 hw) (by decide) (argsL := [(.ref b219)]) (rest := [(.ref b253)]) (W := 1) (rm_init1L l Z a0 hw [] b253 b219 k219 (putAt [sp0, sp1, sp2, sp3, sp4, sp5, sp6] pn [(48 : Int32)]) 7 zc h253 n0 (Nat.le_trans Z0 (Nat.le_trans (Nat.le_trans (Nat.le_trans (Nat.le_trans (Nat.le_trans (Nat.le_trans (Nat.le_trans (Nat.le_trans (Nat.le_trans (Nat.le_trans E214.1 E219.1) (Keep.of_wr W221).1) (Keep.of_wr W223).1) (Keep.of_wr W225).1) (Keep.of_wr W227).1) (Keep.of_wr W229).1) (Keep.of_wr W231).1) (Keep.of_wr W233).1) (Keep.of_wr W240).1) E253.1)) f257 A253 (Nat.le_trans Z0 (Nat.le_trans (Nat.le_trans (Nat.le_trans (Nat.le_trans (Nat.le_trans (Nat.le_trans (Nat.le_trans (Nat.le_trans (Nat.le_trans (Nat.le_trans E214.1 E219.1) (Keep.of_wr W221).1) (Keep.of_wr W223).1) (Keep.of_wr W225).1) (Keep.of_wr W227).1) (Keep.of_wr W229).1) (Keep.of_wr W231).1) (Keep.of_wr W233).1) (Keep.of_wr W240).1) (Nat.le_of_eq g253.symm))) F253_coder F253_value f255 (by decide) (putAt_len _ _ _) (by decide) (by decide) (own_bufle rfl hwl own_tok3 (by show pn + 1 ≤ 7; omega)) CS hz) rfl (lenOf pd36 rfl) rfl (by rw [hml]; rfl) rfl (by show 2 * 0 + _ ≤ _; exact Nat.le_of_eq rfl) (by decide) (by decide) (by decide) (by decide) (hb hby at_244) ?_
      intro v256 T256 h256 L256 X256 e256 q256
      obtain ⟨hv256, Nf256, K256, xs, hx1, hx2, SN⟩ := q256
      subst hv256
      have N256 := Fr.app N240 Nf256
      show Go p.tables e below _ T256 (mkF m 247 #[.val (.int x0), .val (.int x1), .val (.long x2), .second, .val (.int x3), .val (.int x4), .val (.int (3 : Int32)), .val (.ref l214), .val (.int (0 : Int32)), .val (.int (1 : Int32)), .val (.ref b219), .val (.int (Int32.ofNat pn)), .unset, .unset, .unset] [(.ref b253)])
      have hbuf := own_buf (p := pn) rfl hwl own_tok3 (by decide) (by show pn + 1 ≤ 7; omega) hx1 hx2
      refine Go.st (T' := T256) (g' := (mkF m 252 #[.val (.int x0), .val (.int x1), .val (.long x2), .second, .val (.int x3), .val (.int x4), .val (.int (3 : Int32)), .val (.ref l214), .val (.int (0 : Int32)), .val (.int (1 : Int32)), .val (.ref b219), .val (.int (Int32.ofNat pn)), .unset, .unset, .unset] [(.ref b253)])) (fun _ zk => XS.goto X256.here hx rfl (pc0 := 247) (pc' := 252) rfl (hb hby at_247) (by decide) (by decide) zk) ?_
      refine Go.st (T' := T256) (g' := (mkF m 254 #[.val (.int x0), .val (.int x1), .val (.long x2), .second, .val (.int x3), .val (.int x4), .val (.int (3 : Int32)), .val (.ref l214), .val (.int (0 : Int32)), .val (.int (1 : Int32)), .val (.ref b219), .val (.int (Int32.ofNat pn)), .val (.ref b253), .unset, .unset] [])) (fun _ zk => XS.astore X256.here hx rfl (hb hby at_252) rfl rfl (l' := #[.val (.int x0), .val (.int x1), .val (.long x2), .second, .val (.int x3), .val (.int x4), .val (.int (3 : Int32)), .val (.ref l214), .val (.int (0 : Int32)), .val (.int (1 : Int32)), .val (.ref b219), .val (.int (Int32.ofNat pn)), .val (.ref b253), .unset, .unset]) rfl zk) ?_
      refine Go.st (T' := T256) (g' := (mkF m 256 #[.val (.int x0), .val (.int x1), .val (.long x2), .second, .val (.int x3), .val (.int x4), .val (.int (3 : Int32)), .val (.ref l214), .val (.int (0 : Int32)), .val (.int (1 : Int32)), .val (.ref b219), .val (.int (Int32.ofNat pn)), .val (.ref b253), .unset, .unset] [(.int x4)])) (fun _ zk => XS.iload X256.here hx rfl (hb hby at_254) rfl zk) ?_
      refine Go.st (T' := T256) (g' := (mkF m 259 #[.val (.int x0), .val (.int x1), .val (.long x2), .second, .val (.int x3), .val (.int x4), .val (.int (3 : Int32)), .val (.ref l214), .val (.int (0 : Int32)), .val (.int (1 : Int32)), .val (.ref b219), .val (.int (Int32.ofNat pn)), .val (.ref b253), .unset, .unset] [(.int (255 : Int32)), (.int x4)])) (fun _ zk => XS.sipush X256.here hx rfl (hb hby at_256) zk) ?_
      refine Go.st (T' := T256) (g' := (mkF m 260 #[.val (.int x0), .val (.int x1), .val (.long x2), .second, .val (.int x3), .val (.int x4), .val (.int (3 : Int32)), .val (.ref l214), .val (.int (0 : Int32)), .val (.int (1 : Int32)), .val (.ref b219), .val (.int (Int32.ofNat pn)), .val (.ref b253), .unset, .unset] [(.int (x4 &&& (255 : Int32)))])) (fun _ zk => XS.iand X256.here hx rfl (hb hby at_259) rfl zk) ?_
      refine Go.st (T' := T256) (g' := (mkF m 261 #[.val (.int x0), .val (.int x1), .val (.long x2), .second, .val (.int x3), .val (.int x4), .val (.int (3 : Int32)), .val (.ref l214), .val (.int (0 : Int32)), .val (.int (1 : Int32)), .val (.ref b219), .val (.int (Int32.ofNat pn)), .val (.ref b253), .unset, .unset] [(.int ((x4 &&& (255 : Int32)).toUInt32.toUInt16.toUInt32.toInt32))])) (fun _ zk => XS.i2c X256.here hx rfl (hb hby at_260) rfl zk) ?_
      have f259 := (f257.keep K256 (allS (Nat.le_trans Z0 (Nat.le_trans (Nat.le_trans (Nat.le_trans (Nat.le_trans (Nat.le_trans (Nat.le_trans (Nat.le_trans (Nat.le_trans (Nat.le_trans (Nat.le_trans E214.1 E219.1) (Keep.of_wr W221).1) (Keep.of_wr W223).1) (Keep.of_wr W225).1) (Keep.of_wr W227).1) (Keep.of_wr W229).1) (Keep.of_wr W231).1) (Keep.of_wr W233).1) (Keep.of_wr W240).1) (Nat.le_of_eq g253.symm))) all0))
      refine Go.callSt (y := (⟨"java/lang/String", "valueOf", "(C)Ljava/lang/String;"⟩ : MethodName)) X256 hx hZ hown e256 (w50 hw) (w51 hw) (w1 hw) (w52 hw) (by decide) (argsL := [(.int ((x4 &&& (255 : Int32)).toUInt32.toUInt16.toUInt32.toInt32))]) (rest := []) (W := 0) (rm_valueOfC l Z a0 hw [] ((x4 &&& (255 : Int32)).toUInt32.toUInt16.toUInt32.toInt32) zc h256 n0 (Nat.le_trans Z0 (Nat.le_trans (Nat.le_trans (Nat.le_trans (Nat.le_trans (Nat.le_trans (Nat.le_trans (Nat.le_trans (Nat.le_trans (Nat.le_trans (Nat.le_trans (Nat.le_trans E214.1 E219.1) (Keep.of_wr W221).1) (Keep.of_wr W223).1) (Keep.of_wr W225).1) (Keep.of_wr W227).1) (Keep.of_wr W229).1) (Keep.of_wr W231).1) (Keep.of_wr W233).1) (Keep.of_wr W240).1) E253.1) K256.1)) f259 (le255 (and255 x4)) CS hz) rfl (lenOf pd34 rfl) rfl (by rw [hml]; rfl) rfl (by show 2 * 0 + _ ≤ _; exact Nat.le_of_eq rfl) (by decide) (by decide) (by decide) (by decide) (hb hby at_261) ?_
      intro v258 T258 h258 L258 X258 e258 q258
      obtain ⟨a258, hv258, Nf258, E258, ge258, S258⟩ := q258
      subst hv258
      have N258 := Fr.app N256 Nf258
      show Go p.tables e below _ T258 (mkF m 264 #[.val (.int x0), .val (.int x1), .val (.long x2), .second, .val (.int x3), .val (.int x4), .val (.int (3 : Int32)), .val (.ref l214), .val (.int (0 : Int32)), .val (.int (1 : Int32)), .val (.ref b219), .val (.int (Int32.ofNat pn)), .val (.ref b253), .unset, .unset] [(.ref a258)])
      refine Go.st (T' := T258) (g' := (mkF m 266 #[.val (.int x0), .val (.int x1), .val (.long x2), .second, .val (.int x3), .val (.int x4), .val (.int (3 : Int32)), .val (.ref l214), .val (.int (0 : Int32)), .val (.int (1 : Int32)), .val (.ref b219), .val (.int (Int32.ofNat pn)), .val (.ref b253), .val (.ref a258), .unset] [])) (fun _ zk => XS.astore X258.here hx rfl (hb hby at_264) rfl rfl (l' := #[.val (.int x0), .val (.int x1), .val (.long x2), .second, .val (.int x3), .val (.int x4), .val (.int (3 : Int32)), .val (.ref l214), .val (.int (0 : Int32)), .val (.int (1 : Int32)), .val (.ref b219), .val (.int (Int32.ofNat pn)), .val (.ref b253), .val (.ref a258), .unset]) rfl zk) ?_
      refine Go.st (T' := T258) (g' := (mkF m 268 #[.val (.int x0), .val (.int x1), .val (.long x2), .second, .val (.int x3), .val (.int x4), .val (.int (3 : Int32)), .val (.ref l214), .val (.int (0 : Int32)), .val (.int (1 : Int32)), .val (.ref b219), .val (.int (Int32.ofNat pn)), .val (.ref b253), .val (.ref a258), .unset] [(.int x4)])) (fun _ zk => XS.iload X258.here hx rfl (hb hby at_266) rfl zk) ?_
      refine Go.st (T' := T258) (g' := (mkF m 270 #[.val (.int x0), .val (.int x1), .val (.long x2), .second, .val (.int x3), .val (.int x4), .val (.int (3 : Int32)), .val (.ref l214), .val (.int (0 : Int32)), .val (.int (1 : Int32)), .val (.ref b219), .val (.int (Int32.ofNat pn)), .val (.ref b253), .val (.ref a258), .unset] [(.int (8 : Int32)), (.int x4)])) (fun _ zk => XS.bipush X258.here hx rfl (hb hby at_268) zk) ?_
      refine Go.st (T' := T258) (g' := (mkF m 271 #[.val (.int x0), .val (.int x1), .val (.long x2), .second, .val (.int x3), .val (.int x4), .val (.int (3 : Int32)), .val (.ref l214), .val (.int (0 : Int32)), .val (.int (1 : Int32)), .val (.ref b219), .val (.int (Int32.ofNat pn)), .val (.ref b253), .val (.ref a258), .unset] [(.int ((x4.toUInt32 >>> ((8 : Int32) &&& 31).toUInt32).toInt32))])) (fun _ zk => XS.iushr X258.here hx rfl (hb hby at_270) rfl zk) ?_
      refine Go.st (T' := T258) (g' := (mkF m 274 #[.val (.int x0), .val (.int x1), .val (.long x2), .second, .val (.int x3), .val (.int x4), .val (.int (3 : Int32)), .val (.ref l214), .val (.int (0 : Int32)), .val (.int (1 : Int32)), .val (.ref b219), .val (.int (Int32.ofNat pn)), .val (.ref b253), .val (.ref a258), .unset] [(.int (255 : Int32)), (.int ((x4.toUInt32 >>> ((8 : Int32) &&& 31).toUInt32).toInt32))])) (fun _ zk => XS.sipush X258.here hx rfl (hb hby at_271) zk) ?_
      refine Go.st (T' := T258) (g' := (mkF m 275 #[.val (.int x0), .val (.int x1), .val (.long x2), .second, .val (.int x3), .val (.int x4), .val (.int (3 : Int32)), .val (.ref l214), .val (.int (0 : Int32)), .val (.int (1 : Int32)), .val (.ref b219), .val (.int (Int32.ofNat pn)), .val (.ref b253), .val (.ref a258), .unset] [(.int (((x4.toUInt32 >>> ((8 : Int32) &&& 31).toUInt32).toInt32) &&& (255 : Int32)))])) (fun _ zk => XS.iand X258.here hx rfl (hb hby at_274) rfl zk) ?_
      refine Go.st (T' := T258) (g' := (mkF m 276 #[.val (.int x0), .val (.int x1), .val (.long x2), .second, .val (.int x3), .val (.int x4), .val (.int (3 : Int32)), .val (.ref l214), .val (.int (0 : Int32)), .val (.int (1 : Int32)), .val (.ref b219), .val (.int (Int32.ofNat pn)), .val (.ref b253), .val (.ref a258), .unset] [(.int ((((x4.toUInt32 >>> ((8 : Int32) &&& 31).toUInt32).toInt32) &&& (255 : Int32)).toUInt32.toUInt16.toUInt32.toInt32))])) (fun _ zk => XS.i2c X258.here hx rfl (hb hby at_275) rfl zk) ?_
      have xt261 : Ext h256 h258 := E258
      have f262 := f259.ext xt261
      refine Go.callSt (y := (⟨"java/lang/String", "valueOf", "(C)Ljava/lang/String;"⟩ : MethodName)) X258 hx hZ hown e258 (w50 hw) (w51 hw) (w1 hw) (w52 hw) (by decide) (argsL := [(.int ((((x4.toUInt32 >>> ((8 : Int32) &&& 31).toUInt32).toInt32) &&& (255 : Int32)).toUInt32.toUInt16.toUInt32.toInt32))]) (rest := []) (W := 0) (rm_valueOfC l Z a0 hw [] ((((x4.toUInt32 >>> ((8 : Int32) &&& 31).toUInt32).toInt32) &&& (255 : Int32)).toUInt32.toUInt16.toUInt32.toInt32) zc h258 n0 (Nat.le_trans Z0 (Nat.le_trans (Nat.le_trans (Nat.le_trans (Nat.le_trans (Nat.le_trans (Nat.le_trans (Nat.le_trans (Nat.le_trans (Nat.le_trans (Nat.le_trans (Nat.le_trans (Nat.le_trans E214.1 E219.1) (Keep.of_wr W221).1) (Keep.of_wr W223).1) (Keep.of_wr W225).1) (Keep.of_wr W227).1) (Keep.of_wr W229).1) (Keep.of_wr W231).1) (Keep.of_wr W233).1) (Keep.of_wr W240).1) E253.1) K256.1) E258.1)) f262 (le255 (and255 ((x4.toUInt32 >>> ((8 : Int32) &&& 31).toUInt32).toInt32))) CS hz) rfl (lenOf pd34 rfl) rfl (by rw [hml]; rfl) rfl (by show 2 * 0 + _ ≤ _; exact Nat.le_of_eq rfl) (by decide) (by decide) (by decide) (by decide) (hb hby at_276) ?_
      intro v260 T260 h260 L260 X260 e260 q260
      obtain ⟨a260, hv260, Nf260, E260, ge260, S260⟩ := q260
      subst hv260
      have N260 := Fr.app N258 Nf260
      show Go p.tables e below _ T260 (mkF m 279 #[.val (.int x0), .val (.int x1), .val (.long x2), .second, .val (.int x3), .val (.int x4), .val (.int (3 : Int32)), .val (.ref l214), .val (.int (0 : Int32)), .val (.int (1 : Int32)), .val (.ref b219), .val (.int (Int32.ofNat pn)), .val (.ref b253), .val (.ref a258), .unset] [(.ref a260)])
      refine Go.st (T' := T260) (g' := (mkF m 281 #[.val (.int x0), .val (.int x1), .val (.long x2), .second, .val (.int x3), .val (.int x4), .val (.int (3 : Int32)), .val (.ref l214), .val (.int (0 : Int32)), .val (.int (1 : Int32)), .val (.ref b219), .val (.int (Int32.ofNat pn)), .val (.ref b253), .val (.ref a258), .val (.ref a260)] [])) (fun _ zk => XS.astore X260.here hx rfl (hb hby at_279) rfl rfl (l' := #[.val (.int x0), .val (.int x1), .val (.long x2), .second, .val (.int x3), .val (.int x4), .val (.int (3 : Int32)), .val (.ref l214), .val (.int (0 : Int32)), .val (.int (1 : Int32)), .val (.ref b219), .val (.int (Int32.ofNat pn)), .val (.ref b253), .val (.ref a258), .val (.ref a260)]) rfl zk) ?_
      refine Go.st (T' := T260) (g' := (mkF m 283 #[.val (.int x0), .val (.int x1), .val (.long x2), .second, .val (.int x3), .val (.int x4), .val (.int (3 : Int32)), .val (.ref l214), .val (.int (0 : Int32)), .val (.int (1 : Int32)), .val (.ref b219), .val (.int (Int32.ofNat pn)), .val (.ref b253), .val (.ref a258), .val (.ref a260)] [(.ref a258)])) (fun _ zk => XS.aload X260.here hx rfl (hb hby at_281) rfl rfl zk) ?_
      refine Go.st (T' := T260) (g' := (mkF m 285 #[.val (.int x0), .val (.int x1), .val (.long x2), .second, .val (.int x3), .val (.int x4), .val (.int (3 : Int32)), .val (.ref l214), .val (.int (0 : Int32)), .val (.int (1 : Int32)), .val (.ref b219), .val (.int (Int32.ofNat pn)), .val (.ref b253), .val (.ref a258), .val (.ref a260)] [(.ref a260), (.ref a258)])) (fun _ zk => XS.aload X260.here hx rfl (hb hby at_283) rfl rfl zk) ?_
      refine Go.st (T' := T260) (g' := (mkF m 287 #[.val (.int x0), .val (.int x1), .val (.long x2), .second, .val (.int x3), .val (.int x4), .val (.int (3 : Int32)), .val (.ref l214), .val (.int (0 : Int32)), .val (.int (1 : Int32)), .val (.ref b219), .val (.int (Int32.ofNat pn)), .val (.ref b253), .val (.ref a258), .val (.ref a260)] [(.ref b253), (.ref a260), (.ref a258)])) (fun _ zk => XS.aload X260.here hx rfl (hb hby at_285) rfl rfl zk) ?_
      have xt263 : Ext h256 h260 := (xt261.tr E260)
      have f264 := SN.ext xt263
      have xt266 : Ext h258 h260 := E260
      have f267 := f262.ext xt266
      have xt268 : Ext h214 h260 := (((((xt235.thenW W240 (Nat.le_of_eq g219.symm)).tr E253).thenK K256 (allS (P := fun x => h214.size ≤ x) (Nat.le_trans (Nat.le_trans (Nat.le_trans (Nat.le_trans (Nat.le_trans (Nat.le_trans (Nat.le_trans (Nat.le_trans (Nat.le_trans E219.1 (Keep.of_wr W221).1) (Keep.of_wr W223).1) (Keep.of_wr W225).1) (Keep.of_wr W227).1) (Keep.of_wr W229).1) (Keep.of_wr W231).1) (Keep.of_wr W233).1) (Keep.of_wr W240).1) (Nat.le_of_eq g253.symm)) all0)).tr E258).tr E260)
      have cr269 := chrE ca215 xt268
      refine Go.callStS (y := (⟨"com/example/tokenweave/tokenweave/engine/BpmnReader", "xmlBoolean", "(Ljava/lang/String;Ljava/lang/String;Ljava/lang/String;)Z"⟩ : MethodName)) X260 hx hZ hown e260 hEL cr269.1 hS (Nat.le_trans hk214 (Nat.le_trans (Nat.le_trans (Nat.le_trans (Nat.le_trans (Nat.le_trans (Nat.le_trans (Nat.le_trans (Nat.le_trans (Nat.le_trans (Nat.le_trans (Nat.le_trans (Nat.le_trans E219.1 (Keep.of_wr W221).1) (Keep.of_wr W223).1) (Keep.of_wr W225).1) (Keep.of_wr W227).1) (Keep.of_wr W229).1) (Keep.of_wr W231).1) (Keep.of_wr W233).1) (Keep.of_wr W240).1) E253.1) K256.1) E258.1) E260.1)) (w67 hw) (w68 hw) (w69 hw) (w70 hw) (by decide) (argsL := [(.ref a258), (.ref a260), (.ref b253)]) (rest := []) (W := 0) (rm_xmlBool l Z a0 hw [] a258 a260 b253 xs [(48 : Int32)] pn (pn + 1) zc ci dA kA h260 n0 (Nat.le_trans Z0 (Nat.le_trans (Nat.le_trans (Nat.le_trans (Nat.le_trans (Nat.le_trans (Nat.le_trans (Nat.le_trans (Nat.le_trans (Nat.le_trans (Nat.le_trans (Nat.le_trans (Nat.le_trans (Nat.le_trans E214.1 E219.1) (Keep.of_wr W221).1) (Keep.of_wr W223).1) (Keep.of_wr W225).1) (Keep.of_wr W227).1) (Keep.of_wr W229).1) (Keep.of_wr W231).1) (Keep.of_wr W233).1) (Keep.of_wr W240).1) E253.1) K256.1) E258.1) E260.1)) f267 f264 (by omega) (by omega) (by omega) (by omega) hbuf.1 hbuf.2.1 hbuf.2.2.1 hbuf.2.2.2.1 hbuf.2.2.2.2 (Or.inr (Or.inr (Or.inr rfl))) CS hz SI EI SA FA) all0 rfl (lenOf pd35 rfl) rfl (by rw [hml]; rfl) rfl (by show 2 * 0 + _ ≤ _; exact Nat.le_of_eq rfl) (by decide) (by decide) (by decide) (by decide) (hb hby at_287) ?_
      intro v265 T265 h265 L265 X265 e265 q265 hS hZ hown cr265
      obtain ⟨rx, hv265, hcase, Nf265, E265⟩ := q265
      subst hv265
      have N265 := Fr.app N260 Nf265
      have hrx : rx = (0 : Int32) := by
        rcases hcase with z | z
        · exact absurd z.2 (by decide)
        · exact z.1
      have ca270 := cr269.trans cr265
      show Go p.tables e below _ T265 (mkF m 290 #[.val (.int x0), .val (.int x1), .val (.long x2), .second, .val (.int x3), .val (.int x4), .val (.int (3 : Int32)), .val (.ref l214), .val (.int (0 : Int32)), .val (.int (1 : Int32)), .val (.ref b219), .val (.int (Int32.ofNat pn)), .val (.ref b253), .val (.ref a258), .val (.ref a260)] [(.int rx)])
      refine Go.st (T' := T265) (g' := (mkF m 292 #[.val (.int x0), .val (.int x1), .val (.long x2), .second, .val (.int x3), .val (.int x4), .val (.int (3 : Int32)), .val (.ref l214), .val (.int (0 : Int32)), .val (.int (1 : Int32)), .val (.ref b219), .val (.int (Int32.ofNat pn)), .val (.ref b253), .val (.ref a258), .val (.ref a260)] [(.int (0 : Int32)), (.int rx)])) (fun _ zk => XS.iload X265.here hx rfl (hb hby at_290) rfl zk) ?_
      refine Go.st (T' := T265) (g' := (mkF m 295 #[.val (.int x0), .val (.int x1), .val (.long x2), .second, .val (.int x3), .val (.int x4), .val (.int (3 : Int32)), .val (.ref l214), .val (.int (0 : Int32)), .val (.int (1 : Int32)), .val (.ref b219), .val (.int (Int32.ofNat pn)), .val (.ref b253), .val (.ref a258), .val (.ref a260)] [])) (fun _ zk => XS.icmpNo X265.here hx rfl (hb hby at_292) rfl (teq (hrx : rx = (0 : Int32))).2 zk) ?_
      refine Go.st (T' := T265) (g' := (mkF m 296 #[.val (.int x0), .val (.int x1), .val (.long x2), .second, .val (.int x3), .val (.int x4), .val (.int (3 : Int32)), .val (.ref l214), .val (.int (0 : Int32)), .val (.int (1 : Int32)), .val (.ref b219), .val (.int (Int32.ofNat pn)), .val (.ref b253), .val (.ref a258), .val (.ref a260)] [(.int (1 : Int32))])) (fun _ zk => XS.iconst X265.here hx rfl (hb hby at_295) zk) ?_
      refine Go.st (T' := T265) (g' := (mkF m 300 #[.val (.int x0), .val (.int x1), .val (.long x2), .second, .val (.int x3), .val (.int x4), .val (.int (3 : Int32)), .val (.ref l214), .val (.int (0 : Int32)), .val (.int (1 : Int32)), .val (.ref b219), .val (.int (Int32.ofNat pn)), .val (.ref b253), .val (.ref a258), .val (.ref a260)] [(.int (1 : Int32))])) (fun _ zk => XS.goto X265.here hx rfl (pc0 := 296) (pc' := 300) rfl (hb hby at_296) (by decide) (by decide) zk) ?_
      refine Go.retNS X265 hx hlk hS (Nat.le_refl _) ca270 hZ hEL hret rfl (by simp) (hb hby at_300) (by decide) (by decide) e265 ?_
      exact ⟨rfl, N265⟩
set_option maxRecDepth 65536 in
set_option maxHeartbeats 40000000 in
theorem comes_1 {Post : Tables → Env → Array Value → State → Outcome → State → Prop} (hpost : ∀ tb e args s v u, (limb_1_1.after args s (.returned v) u = true ∧ limb_1_2.after args s (.returned v) u = true ∧ True) → ReturnedEndW s (.returned v) u (Jvm.fieldLocs frame_1_writes args s ++ Jvm.arrayLocs frame_1_arrays args s ++ Jvm.staticLocs frame_1_statics s) 48 8384 → Post tb e args s (.returned v) u) :
    ArmFor flags0 classFile x code maxLocals ret World_1 tables_1 room_1 Calls_1 rest_1 Pre_1 Post := by
  intro l hfl _ _ p e ha hc hk s m args below hf hA hF happ hP
  obtain ⟨hcalls, hrest, hpre⟩ := hP
  obtain ⟨-, -, -, hnamed, -, -, -, hat⟩ := (Spec.applies_iff hf).mp happ
  obtain ⟨hg, hn⟩ := and_e (Cond.before_iff.mp (show (Jvm.Cond.and given_1 narrow_1).before args s = true from hpre))
  obtain ⟨g0a, g0b⟩ := and_e hg
  obtain ⟨g1a, g1b⟩ := and_e g0b
  obtain ⟨g2a, g2b⟩ := and_e g1b
  obtain ⟨g3a, g3b⟩ := and_e g2b
  obtain ⟨g4a, g4b⟩ := and_e g3b
  obtain ⟨w0', w1', w2', w3', w4', rfl⟩ : ∃ w0' w1' w2' w3' w4' : Value, args = #[w0', w1', w2', w3', w4'] := by
    have hs : args.size = 5 := by simpa [Cond.value, given_1] using g0a
    obtain ⟨L⟩ := args
    match L, hs with
    | [w0', w1', w2', w3', w4'], _ => exact ⟨w0', w1', w2', w3', w4', rfl⟩
  have hw := fun d (hd : d ∈ tables_1) => atoms_spec (ws := Jvm.Cond.code x code maxLocals ret :: tables_1) hat d (List.mem_cons_of_mem _ hd)
  have hfit : Fit s := fun {y c} hc i hi => by
    obtain ⟨ha, rfl⟩ := Array.getElem?_eq_some_iff.mp hc
    have q := List.all_eq_true.mp ((Array.all_eq_true_iff_forall_mem.mp hF) _ (Array.getElem_mem ha)) i (List.mem_range.mpr hi)
    simpa [Array.getElem?_eq_getElem hi] using q
  obtain ⟨i0, ei0⟩ := is_v g1a
  obtain rfl : w0' = (.int i0) := Option.some.inj ei0
  obtain ⟨i1, ei1⟩ := is_v g2a
  obtain rfl : w1' = (.int i1) := Option.some.inj ei1
  obtain ⟨i2, ei2⟩ := isL_v g3a
  obtain rfl : w2' = (.long i2) := Option.some.inj ei2
  obtain ⟨i3, ei3⟩ := is_v g4a
  obtain rfl : w3' = (.int i3) := Option.some.inj ei3
  obtain ⟨i4, ei4⟩ := is_v g4b
  obtain rfl : w4' = (.int i4) := Option.some.inj ei4
  have hrest' : rest_1_c.before _ s = true := hrest
  have hall := (atoms_of _ (rest_1_c_eq ▸ hrest')).1
  have rj0 := Cond.before_iff.mp (hall (Jvm.Cond.initializedFor "java/lang/String" "COMPACT_STRINGS" "Z") (List.mem_of_getElem? (i := 0) rfl))
  have rj1 := Cond.before_iff.mp (hall (Jvm.Cond.isInt (Jvm.Term.static "java/lang/String" "COMPACT_STRINGS" "Z")) (List.mem_of_getElem? (i := 1) rfl))
  have rj2 := Cond.before_iff.mp (hall (Jvm.Cond.not (Jvm.Cond.eq (Jvm.Term.static "java/lang/String" "COMPACT_STRINGS" "Z") (Jvm.Term.int (0 : Int32)))) (List.mem_of_getElem? (i := 2) rfl))
  have rj7 := Cond.before_iff.mp (hall (Jvm.Cond.initializedFor "jdk/internal/util/Preconditions" "SIOOBE_FORMATTER" "Ljava/util/function/BiFunction;") (List.mem_of_getElem? (i := 7) rfl))
  have rj8 := Cond.before_iff.mp (hall (Jvm.Cond.isRef (Jvm.Term.static "jdk/internal/util/Preconditions" "SIOOBE_FORMATTER" "Ljava/util/function/BiFunction;")) (List.mem_of_getElem? (i := 8) rfl))
  have rj10 := Cond.before_iff.mp (hall (Jvm.Cond.initializedFor "java/lang/CharacterDataLatin1" "instance" "Ljava/lang/CharacterDataLatin1;") (List.mem_of_getElem? (i := 10) rfl))
  have rj11 := Cond.before_iff.mp (hall (Jvm.Cond.exactly (Jvm.Term.static "java/lang/CharacterDataLatin1" "instance" "Ljava/lang/CharacterDataLatin1;") "java/lang/CharacterDataLatin1") (List.mem_of_getElem? (i := 11) rfl))
  have rj13 := Cond.before_iff.mp (hall (Jvm.Cond.initializedFor "java/lang/CharacterDataLatin1" "A" "[I") (List.mem_of_getElem? (i := 13) rfl))
  have rj14 := Cond.before_iff.mp (hall (Jvm.Cond.arrayOf (Jvm.Term.static "java/lang/CharacterDataLatin1" "A" "[I") Jvm.ClassFile.FieldType.int) (List.mem_of_getElem? (i := 14) rfl))
  have rj15 := Cond.before_iff.mp (hall (Jvm.Cond.exactly (Jvm.Term.static "java/lang/CharacterDataLatin1" "A" "[I") "[I") (List.mem_of_getElem? (i := 15) rfl))
  have rj16 := Cond.before_iff.mp (hall (Jvm.Cond.eq (Jvm.Term.length (Jvm.Term.static "java/lang/CharacterDataLatin1" "A" "[I")) (Jvm.Term.int (256 : Int32))) (List.mem_of_getElem? (i := 16) rfl))
  obtain ⟨zc, ezc⟩ := is_v rj1
  have CS : Sta s s.heap "java/lang/String" "COMPACT_STRINGS" "Z" (.int zc) := Sta.start ezc (Or.inl (Cond.before_iff.mpr rj0))
  have hz : ¬ zc = 0 := fun q => by
    have q1 := not_v rj2
    rw [eq_i ezc (Term.int_eval (0)) (by rw [q])] at q1
    cases q1
  obtain ⟨fm, efm, rf⟩ := isR_v rj8
  have FM : Sta s s.heap "jdk/internal/util/Preconditions" "SIOOBE_FORMATTER" "Ljava/util/function/BiFunction;" fm := Sta.start efm (Or.inl (Cond.before_iff.mpr rj7))
  have hcw : Jvm.Lit.compactW.before _ s = true := Cond.before_iff.mpr rj2
  have HCH : CHv s EL0 s.vm s.heap := CHv.start (hEL0 hw) (fun p hp => hcalls.1 p hp) hcw (w3 hw) (w2 hw)
  obtain ⟨ci, eci⟩ := exa_v rj11
  have EI : Exa s s.heap ci "java/lang/CharacterDataLatin1" := Exa.start eci rj11
  have SI : Sta s s.heap "java/lang/CharacterDataLatin1" "instance" "Ljava/lang/CharacterDataLatin1;" (.ref ci) := Sta.start eci (Or.inl (Cond.before_iff.mpr rj10))
  obtain ⟨dA, eA⟩ := exa_v rj15
  have SA : Sta s s.heap "java/lang/CharacterDataLatin1" "A" "[I" (.ref dA) := Sta.start eA (Or.inl (Cond.before_iff.mpr rj13))
  obtain ⟨kA, FA⟩ := Arv.startL (dv := (.int (0 : Int32))) (vs := tabA.map Value.int) hfit eA rj14 rj16 (by decide) rfl (fun c hc => own_hasL tabA 0 fun j hj => by
    have q := (elem_in (eqv_i rfl (Cond.before_iff.mp (hall _ (own_tab j hj)))) eA rfl hc).2
    rw [own_clamp (Nat.lt_trans hj (by decide))] at q
    rw [Nat.zero_add]; exact q)
  obtain ⟨n, o, h1, h2, h3, _, L, rfl, ⟨rfl, N⟩, -, hq⟩ := rm_law l s _ hw tables_1 i0 i1 i2 i3 i4 zc fm ci dA kA s.heap s.heap.size (Nat.le_refl _) (Old.start s) CS hz FM rf SI EI SA FA p e ha hc hk s m _ below hf ((Spec.applies_iff_loose hf).mp happ).1 ⟨rfl, State.Warmed39.refl s, rfl, HCH, fun _ q => nomatch q⟩ trivial
  exact ⟨n, _, h1, h2, h3, hpost _ _ _ _ _ _ ⟨Cond.after_iff.mpr rfl, Cond.after_iff.mpr (eq_i res_at (Term.int_eval (1)) rfl), trivial⟩ ⟨hq.1, hq.2.1, hq.2.2.1, (hq.2.2.2.sift fun y hy => Or.inr (N y hy)).mono (by decide) (by decide)⟩⟩
theorem main_1_1 : Claimed_1_1 := comes_1 fun _ _ _ _ _ _ h hF => ⟨h.1, hF⟩
theorem main_1_2 : Claimed_1_2 := comes_1 fun _ _ _ _ _ _ h hF => ⟨h.2.1, hF⟩
end Jvm.Pilot.@@N@@
namespace Jvm.Pilot.@@N@@
open Jvm Jvm.ClassFile Sem Op Lib Jvm.Free Jvm.Stand Jvm.Pilot.@@N@@.Jvm.D
/-! MADE BY PROGRAM (witnessworld.py) out of the Statement's table words and the real class files: 24 classes; the members and pool entries that the words name. The judged class is class 1, her method 1. -/
namespace start1
open Jvm.ClassFile
def u (s : String) : CpInfo := .utf8 (stringToUtf16 s)
/-- a pool by its gaps: so many unusable entries, then the entry; so many at the end -/
def gap : Nat → List CpInfo → List CpInfo
  | 0, r => r
  | n + 1, r => .unusable :: gap n r
def poolList (es : List (Nat × CpInfo)) (last : Nat) : List CpInfo := es.foldr (fun e r => gap e.1 (e.2 :: r)) (gap last [])
def pool (es : List (Nat × CpInfo)) (last : Nat) : Array CpInfo := ⟨poolList es last⟩
def fileOf (pool : Array CpInfo) (this : Nat) (attrs : Array Attribute := #[]) (ms : Array MethodInfo := #[]) (fl : Nat := 33) (sup : Nat := 0) (ifs : Array Nat := #[]) (fds : Array FieldInfo := #[]) : ClassFile where
  minorVersion := 0
  majorVersion := 65
  constantPool := pool
  accessFlags := fl
  thisClass := this
  superClass := sup
  interfaces := ifs
  fields := fds
  methods := ms
  attributes := attrs
def plain (name : String) (sup : Option ClassId) : Class where
  name := name
  kind := .ordinary
  loader := none
  accessFlags := 33
  super := sup
  interfaces := #[]
  cf := none
  fields := #[]
  methods := #[]
  instanceTypes := #[]
  staticTypes := #[]
  resolved := #[]
  callSites := []
  init := .initialized
  statics := none
  mirror := none

def pool0 : Array CpInfo := pool [(5, u "<init>"), (0, u "()V"), (1, .class_ 10), (1, u "java/lang/Object")] 113

def k0c0 : Code := { maxStack := 0, maxLocals := 1, code := object_method_1_code, exceptionTable := #[], attributes := #[] }
def k0m0 : Method := { name := "<init>", desc := "()V", sig := { parameters := [], returnType := none }, accessFlags := 1, code := some k0c0 }
/-- java/lang/Object -/
def k0 : Class := { plain "java/lang/Object" none with
  accessFlags := 33
  interfaces := #[]
  cf := some (fileOf pool0 8 #[] #[{ accessFlags := 1, nameIndex := 5, descriptorIndex := 6, attributes := #[] }] 33 0 #[] #[])
  fields := #[]
  methods := #[k0m0]
  instanceTypes := #[]
  staticTypes := #[]
  resolved := Array.replicate 124 none
  statics := none }

def pool1 : Array CpInfo := pool [(2, .class_ 4), (1, u "java/lang/Object"), (0, u "<init>"), (0, u "()V"), (0, .string 8), (0, u "true"), (0, .string 10), (0, u "1"), (0, .string 12), (0, u "false"), (0, .string 14), (0, u "0"), (0, .methodref 16 17), (0, .class_ 18), (0, .nameAndType 19 20), (0, u "java/lang/String"), (0, u "length"), (0, u "()I"), (0, .methodref 22 23), (0, .class_ 24), (0, .nameAndType 25 26), (0, u "com/example/tokenweave/tokenweave/engine/BpmnReaderXmlBooleanPinLaw"), (0, u "space"), (0, u "(JI)C"), (0, .integer 2147483647), (0, .methodref 16 29), (0, .nameAndType 30 31), (0, u "charAt"), (0, u "(I)C"), (0, .methodref 16 33), (0, .nameAndType 5 34), (0, u "([C)V"), (0, .methodref 16 36), (0, .nameAndType 37 38), (0, u "valueOf"), (0, u "(C)Ljava/lang/String;"), (0, .methodref 40 41), (0, .class_ 42), (0, .nameAndType 43 44), (0, u "com/example/tokenweave/tokenweave/engine/BpmnReader"), (0, u "xmlBoolean"), (0, u "(Ljava/lang/String;Ljava/lang/String;Ljava/lang/String;)Z"), (0, .long 15), (3, u "law"), (0, u "(IIJII)Z")] 8

def k1m0 : Method := { name := "<init>", desc := "()V", sig := { parameters := [], returnType := none }, accessFlags := 1, code := none }
def k1c1 : Code := { maxStack := 5, maxLocals := 15, code := code, exceptionTable := #[], attributes := #[] }
def k1m1 : Method := { name := "law", desc := "(IIJII)Z", sig := { parameters := [.int, .int, .long, .int, .int], returnType := some .boolean }, accessFlags := 9, code := some k1c1 }
def k1c2 : Code := { maxStack := 4, maxLocals := 4, code := method_3_code, exceptionTable := #[], attributes := #[] }
def k1m2 : Method := { name := "space", desc := "(JI)C", sig := { parameters := [.long, .int], returnType := some .char }, accessFlags := 10, code := some k1c2 }
/-- com/example/tokenweave/tokenweave/engine/BpmnReaderXmlBooleanPinLaw -/
def k1 : Class := { plain "com/example/tokenweave/tokenweave/engine/BpmnReaderXmlBooleanPinLaw" (some 0) with
  accessFlags := 49
  interfaces := #[]
  cf := some (fileOf pool1 22 #[] #[{ accessFlags := 1, nameIndex := 5, descriptorIndex := 6, attributes := #[] }, { accessFlags := 9, nameIndex := 49, descriptorIndex := 50, attributes := #[] }, { accessFlags := 10, nameIndex := 25, descriptorIndex := 26, attributes := #[] }] 49 2 #[] #[])
  fields := #[]
  methods := #[k1m0, k1m1, k1m2]
  instanceTypes := #[]
  staticTypes := #[]
  resolved := Array.replicate 59 none
  statics := none }

def pool2 : Array CpInfo := pool [(1, .class_ 2), (0, u "java/io/Serializable"), (0, .class_ 4), (0, u "java/lang/Object")] 2

/-- java/io/Serializable -/
def k2 : Class := { plain "java/io/Serializable" (some 0) with
  accessFlags := 1537
  interfaces := #[]
  cf := some (fileOf pool2 1 #[] #[] 1537 3 #[] #[])
  fields := #[]
  methods := #[]
  instanceTypes := #[]
  staticTypes := #[]
  resolved := Array.replicate 7 none
  statics := none }

def pool3 : Array CpInfo := pool [(1, .class_ 2), (0, u "java/lang/Comparable"), (0, .class_ 4), (0, u "java/lang/Object")] 7

/-- java/lang/Comparable -/
def k3 : Class := { plain "java/lang/Comparable" (some 0) with
  accessFlags := 1537
  interfaces := #[]
  cf := some (fileOf pool3 1 #[] #[] 1537 3 #[] #[])
  fields := #[]
  methods := #[]
  instanceTypes := #[]
  staticTypes := #[]
  resolved := Array.replicate 12 none
  statics := none }

def pool4 : Array CpInfo := pool [(2, .class_ 4), (1, u "java/lang/CharSequence"), (42, .class_ 48), (0, u "java/lang/CharSequence$1CodePointIterator"), (10, .class_ 60), (0, u "java/lang/CharSequence$1CharIterator"), (5, .class_ 67), (0, u "java/lang/Object")] 63

/-- java/lang/CharSequence -/
def k4 : Class := { plain "java/lang/CharSequence" (some 0) with
  accessFlags := 1537
  interfaces := #[]
  cf := some (fileOf pool4 2 #[.nestMembers #[47, 59]] #[] 1537 66 #[] #[])
  fields := #[]
  methods := #[]
  instanceTypes := #[]
  staticTypes := #[]
  resolved := Array.replicate 131 none
  statics := none }

def pool5 : Array CpInfo := pool [(1, .class_ 2), (0, u "java/lang/constant/Constable"), (0, .class_ 4), (0, u "java/lang/Object")] 6

/-- java/lang/constant/Constable -/
def k5 : Class := { plain "java/lang/constant/Constable" (some 0) with
  accessFlags := 1537
  interfaces := #[]
  cf := some (fileOf pool5 1 #[] #[] 1537 3 #[] #[])
  fields := #[]
  methods := #[]
  instanceTypes := #[]
  staticTypes := #[]
  resolved := Array.replicate 11 none
  statics := none }

def pool6 : Array CpInfo := pool [(1, .class_ 2), (0, u "java/lang/constant/ConstantDesc"), (0, .class_ 4), (0, u "java/lang/Object")] 32

/-- java/lang/constant/ConstantDesc -/
def k6 : Class := { plain "java/lang/constant/ConstantDesc" (some 0) with
  accessFlags := 1537
  interfaces := #[]
  cf := some (fileOf pool6 1 #[] #[] 1537 3 #[] #[])
  fields := #[]
  methods := #[]
  instanceTypes := #[]
  staticTypes := #[]
  resolved := Array.replicate 37 none
  statics := none }

def pool7 : Array CpInfo := pool [(1, .methodref 2 3), (0, .class_ 4), (0, .nameAndType 5 6), (0, u "java/lang/Object"), (0, u "<init>"), (0, u "()V"), (2, .fieldref 10 11), (0, .class_ 12), (0, .nameAndType 13 14), (0, u "java/lang/String"), (0, u "value"), (0, u "[B"), (0, .fieldref 10 16), (0, .nameAndType 17 18), (0, u "coder"), (0, u "B"), (2, u "hash"), (0, u "I"), (2, u "hashIsZero"), (0, u "Z"), (0, .methodref 10 28), (0, .nameAndType 5 29), (0, u "([CIILjava/lang/Void;)V"), (8, .fieldref 10 39), (0, .nameAndType 40 26), (0, u "COMPACT_STRINGS"), (1, .class_ 44), (1, u "java/lang/StringUTF16"), (0, u "compress"), (1, .methodref 42 48), (0, .nameAndType 49 50), (0, u "coderFromArrayLen"), (0, u "([BI)B"), (2, u "toBytes"), (53, .class_ 109), (1, u "java/lang/StringLatin1"), (32, u "()Z"), (34, .methodref 42 178), (0, .nameAndType 45 179), (0, u "([CII)[B"), (29, .methodref 10 210), (0, .nameAndType 5 211), (0, u "([BB)V"), (122, u "()I"), (0, .methodref 10 336), (0, .nameAndType 17 337), (0, u "()B"), (25, u "([BI)C"), (5, u "(C)Z"), (21, u "(II)V"), (35, u "(I)C"), (36, u "()Ljava/lang/String;"), (27, .methodref 10 493), (0, .nameAndType 494 142), (0, u "isLatin1"), (0, .methodref 107 496), (0, .nameAndType 497 363), (0, u "charAt"), (3, u "checkIndex"), (5, u "length"), (33, .methodref 107 542), (0, .nameAndType 543 544), (0, u "equals"), (0, u "([B[B)Z"), (28, u "(Ljava/lang/Object;)Z"), (1, .class_ 576), (0, u "java/lang/CharSequence"), (22, u "CASE_INSENSITIVE_ORDER"), (0, u "Ljava/util/Comparator;"), (181, u "valueOf"), (0, u "(C)Ljava/lang/String;"), (78, u "([B)Ljava/lang/String;"), (1, .methodref 107 865), (0, .nameAndType 866 862), (0, u "strip"), (143, u "([C)V"), (4, .methodref 107 1016), (0, .nameAndType 1017 369), (0, u "canEncode"), (0, .methodref 107 1019), (0, .nameAndType 53 1020), (0, u "(C)[B"), (32, .fieldref 1054 1055), (0, .class_ 1056), (0, .nameAndType 1057 1058), (0, u "jdk/internal/util/Preconditions"), (0, u "SIOOBE_FORMATTER"), (0, u "Ljava/util/function/BiFunction;"), (0, .methodref 1054 1060), (0, .nameAndType 501 1061), (0, u "(IILjava/util/function/BiFunction;)I"), (39, u "serialPersistentFields"), (0, u "[Ljava/io/ObjectStreamField;"), (0, .class_ 1104), (0, u "java/lang/String$CaseInsensitiveComparator"), (1, .class_ 1107), (0, u "java/io/Serializable"), (0, .class_ 1109), (0, u "java/lang/Comparable"), (0, .class_ 1111), (0, u "java/lang/constant/Constable"), (0, .class_ 1113), (0, u "java/lang/constant/ConstantDesc"), (2, u "serialVersionUID"), (0, u "J"), (3, u "REPL"), (0, u "C"), (2, u "LATIN1"), (1, u "UTF16")] 323

def k7m0 : Method := { name := "<init>", desc := "()V", sig := { parameters := [], returnType := none }, accessFlags := 1, code := none }
def k7c1 : Code := { maxStack := 5, maxLocals := 2, code := jdk_42_method_3_code, exceptionTable := #[], attributes := #[] }
def k7m1 : Method := { name := "<init>", desc := "([C)V", sig := { parameters := [(.array .char)], returnType := none }, accessFlags := 1, code := some k7c1 }
def k7c2 : Code := { maxStack := 2, maxLocals := 1, code := jdk_42_method_54_code, exceptionTable := #[], attributes := #[] }
def k7m2 : Method := { name := "length", desc := "()I", sig := { parameters := [], returnType := some .int }, accessFlags := 1, code := some k7c2 }
def k7c3 : Code := { maxStack := 2, maxLocals := 2, code := jdk_42_method_56_code, exceptionTable := #[], attributes := #[] }
def k7m3 : Method := { name := "charAt", desc := "(I)C", sig := { parameters := [.int], returnType := some .char }, accessFlags := 1, code := some k7c3 }
def k7c4 : Code := { maxStack := 2, maxLocals := 3, code := jdk_42_method_66_code, exceptionTable := #[], attributes := #[] }
def k7m4 : Method := { name := "equals", desc := "(Ljava/lang/Object;)Z", sig := { parameters := [(.object "java/lang/Object")], returnType := some .boolean }, accessFlags := 1, code := some k7c4 }
def k7c5 : Code := { maxStack := 1, maxLocals := 2, code := jdk_42_method_114_code, exceptionTable := #[], attributes := #[] }
def k7m5 : Method := { name := "strip", desc := "()Ljava/lang/String;", sig := { parameters := [], returnType := some (.object "java/lang/String") }, accessFlags := 1, code := some k7c5 }
def k7c6 : Code := { maxStack := 4, maxLocals := 1, code := jdk_42_method_139_code, exceptionTable := #[], attributes := #[] }
def k7m6 : Method := { name := "valueOf", desc := "(C)Ljava/lang/String;", sig := { parameters := [.char], returnType := some (.object "java/lang/String") }, accessFlags := 9, code := some k7c6 }
def k7c7 : Code := { maxStack := 4, maxLocals := 6, code := jdk_42_method_149_code, exceptionTable := #[], attributes := #[] }
def k7m7 : Method := { name := "<init>", desc := "([CIILjava/lang/Void;)V", sig := { parameters := [(.array .char), .int, .int, (.object "java/lang/Void")], returnType := none }, accessFlags := 2, code := some k7c7 }
def k7c8 : Code := { maxStack := 2, maxLocals := 3, code := jdk_42_method_151_code, exceptionTable := #[], attributes := #[] }
def k7m8 : Method := { name := "<init>", desc := "([BB)V", sig := { parameters := [(.array .byte), .byte], returnType := none }, accessFlags := 0, code := some k7c8 }
def k7c9 : Code := { maxStack := 1, maxLocals := 1, code := jdk_42_method_152_code, exceptionTable := #[], attributes := #[] }
def k7m9 : Method := { name := "coder", desc := "()B", sig := { parameters := [], returnType := some .byte }, accessFlags := 0, code := some k7c9 }
def k7c10 : Code := { maxStack := 1, maxLocals := 1, code := jdk_42_method_154_code, exceptionTable := #[], attributes := #[] }
def k7m10 : Method := { name := "isLatin1", desc := "()Z", sig := { parameters := [], returnType := some .boolean }, accessFlags := 0, code := some k7c10 }
def k7c11 : Code := { maxStack := 3, maxLocals := 2, code := jdk_42_method_155_code, exceptionTable := #[], attributes := #[] }
def k7m11 : Method := { name := "checkIndex", desc := "(II)V", sig := { parameters := [.int, .int], returnType := none }, accessFlags := 8, code := some k7c11 }
/-- java/lang/String -/
def k7 : Class := { plain "java/lang/String" (some 0) with
  accessFlags := 49
  interfaces := #[2, 3, 4, 5, 6]
  cf := some (fileOf pool7 10 #[.nestMembers #[1103]] #[{ accessFlags := 1, nameIndex := 5, descriptorIndex := 6, attributes := #[] }, { accessFlags := 1, nameIndex := 5, descriptorIndex := 1010, attributes := #[] }, { accessFlags := 1, nameIndex := 507, descriptorIndex := 334, attributes := #[] }, { accessFlags := 1, nameIndex := 497, descriptorIndex := 427, attributes := #[] }, { accessFlags := 1, nameIndex := 543, descriptorIndex := 573, attributes := #[] }, { accessFlags := 1, nameIndex := 866, descriptorIndex := 464, attributes := #[] }, { accessFlags := 9, nameIndex := 782, descriptorIndex := 783, attributes := #[] }, { accessFlags := 2, nameIndex := 5, descriptorIndex := 29, attributes := #[] }, { accessFlags := 0, nameIndex := 5, descriptorIndex := 211, attributes := #[] }, { accessFlags := 0, nameIndex := 17, descriptorIndex := 337, attributes := #[] }, { accessFlags := 0, nameIndex := 494, descriptorIndex := 142, attributes := #[] }, { accessFlags := 8, nameIndex := 501, descriptorIndex := 391, attributes := #[] }] 49 2 #[1106, 1108, 575, 1110, 1112] #[{ accessFlags := 18, nameIndex := 13, descriptorIndex := 14, attributes := #[] }, { accessFlags := 18, nameIndex := 17, descriptorIndex := 18, attributes := #[] }, { accessFlags := 2, nameIndex := 21, descriptorIndex := 22, attributes := #[] }, { accessFlags := 2, nameIndex := 25, descriptorIndex := 26, attributes := #[] }, { accessFlags := 26, nameIndex := 1116, descriptorIndex := 1117, attributes := #[] }, { accessFlags := 24, nameIndex := 40, descriptorIndex := 26, attributes := #[] }, { accessFlags := 26, nameIndex := 1101, descriptorIndex := 1102, attributes := #[] }, { accessFlags := 26, nameIndex := 1121, descriptorIndex := 1122, attributes := #[] }, { accessFlags := 25, nameIndex := 599, descriptorIndex := 600, attributes := #[] }, { accessFlags := 24, nameIndex := 1125, descriptorIndex := 18, attributes := #[] }, { accessFlags := 24, nameIndex := 1127, descriptorIndex := 18, attributes := #[] }])
  fields := #[{ name := "value", type := (.array .byte), accessFlags := 18, slot := 0, constantValue := 0 }, { name := "coder", type := .byte, accessFlags := 18, slot := 1, constantValue := 0 }, { name := "hash", type := .int, accessFlags := 2, slot := 2, constantValue := 0 }, { name := "hashIsZero", type := .boolean, accessFlags := 2, slot := 3, constantValue := 0 }, { name := "serialVersionUID", type := .long, accessFlags := 26, slot := 0, constantValue := 0 }, { name := "COMPACT_STRINGS", type := .boolean, accessFlags := 24, slot := 1, constantValue := 0 }, { name := "serialPersistentFields", type := (.array (.object "java/io/ObjectStreamField")), accessFlags := 26, slot := 2, constantValue := 0 }, { name := "REPL", type := .char, accessFlags := 26, slot := 3, constantValue := 0 }, { name := "CASE_INSENSITIVE_ORDER", type := (.object "java/util/Comparator"), accessFlags := 25, slot := 4, constantValue := 0 }, { name := "LATIN1", type := .byte, accessFlags := 24, slot := 5, constantValue := 0 }, { name := "UTF16", type := .byte, accessFlags := 24, slot := 6, constantValue := 0 }]
  methods := #[k7m0, k7m1, k7m2, k7m3, k7m4, k7m5, k7m6, k7m7, k7m8, k7m9, k7m10, k7m11]
  instanceTypes := #[(.array .byte), .byte, .int, .boolean]
  staticTypes := #[.long, .boolean, (.array (.object "java/io/ObjectStreamField")), .char, (.object "java/util/Comparator"), .byte, .byte]
  resolved := Array.replicate 1451 none
  statics := some 0 }

def pool8 : Array CpInfo := pool [(1, .class_ 2), (0, u "java/lang/String"), (1, .class_ 6), (1, u "java/lang/Object"), (0, u "<init>"), (0, u "()V"), (0, .methodref 1 10), (0, .nameAndType 11 12), (0, u "checkIndex"), (0, u "(II)V"), (1, .class_ 16), (1, u "java/lang/StringLatin1"), (33, .methodref 14 51), (0, .nameAndType 52 53), (0, u "getChar"), (0, u "([BI)C"), (3, u "([B)I"), (8, .fieldref 67 68), (0, .class_ 69), (0, .nameAndType 70 71), (0, u "java/lang/CharacterDataLatin1"), (0, u "instance"), (0, u "Ljava/lang/CharacterDataLatin1;"), (18, u "canEncode"), (0, u "(I)Z"), (13, u "(C)Z"), (6, .methodref 1 113), (0, .nameAndType 7 114), (0, u "([BB)V"), (6, u "$assertionsDisabled"), (0, u "Z"), (8, .class_ 133), (1, u "java/util/Arrays"), (61, .nameAndType 196 197), (0, u "newString"), (0, u "([BII)Ljava/lang/String;"), (12, .methodref 14 195), (0, .methodref 67 212), (0, .nameAndType 213 91), (0, u "isWhitespace"), (0, .methodref 14 215), (0, .nameAndType 216 57), (0, u "indexOfNonWhitespace"), (0, .methodref 14 218), (0, .nameAndType 219 57), (0, u "lastIndexOfNonWhitespace"), (1, .class_ 223), (1, u "java/lang/StringLatin1$LinesSpliterator"), (8, .methodref 131 233), (0, .nameAndType 234 235), (0, u "copyOfRange"), (0, u "([BII)[B"), (16, u "charAt"), (28, u "equals"), (0, u "([B[B)Z"), (84, u "([B)Ljava/lang/String;"), (3, u "strip"), (8, u "toBytes"), (1, u "(C)[B"), (7, .class_ 391), (0, u "java/lang/StringLatin1$CharsSpliterator")] 3

def k8m0 : Method := { name := "<init>", desc := "()V", sig := { parameters := [], returnType := none }, accessFlags := 0, code := none }
def k8c1 : Code := { maxStack := 2, maxLocals := 2, code := jdk_43_method_2_code, exceptionTable := #[], attributes := #[] }
def k8m1 : Method := { name := "charAt", desc := "([BI)C", sig := { parameters := [(.array .byte), .int], returnType := some .char }, accessFlags := 9, code := some k8c1 }
def k8c2 : Code := { maxStack := 2, maxLocals := 1, code := jdk_43_method_3_code, exceptionTable := #[], attributes := #[] }
def k8m2 : Method := { name := "canEncode", desc := "(C)Z", sig := { parameters := [.char], returnType := some .boolean }, accessFlags := 9, code := some k8c2 }
def k8c3 : Code := { maxStack := 3, maxLocals := 3, code := jdk_43_method_13_code, exceptionTable := #[], attributes := #[] }
def k8m3 : Method := { name := "equals", desc := "([B[B)Z", sig := { parameters := [(.array .byte), (.array .byte)], returnType := some .boolean }, accessFlags := 9, code := some k8c3 }
def k8c4 : Code := { maxStack := 2, maxLocals := 4, code := jdk_43_method_37_code, exceptionTable := #[], attributes := #[] }
def k8m4 : Method := { name := "indexOfNonWhitespace", desc := "([B)I", sig := { parameters := [(.array .byte)], returnType := some .int }, accessFlags := 9, code := some k8c4 }
def k8c5 : Code := { maxStack := 3, maxLocals := 4, code := jdk_43_method_38_code, exceptionTable := #[], attributes := #[] }
def k8m5 : Method := { name := "lastIndexOfNonWhitespace", desc := "([B)I", sig := { parameters := [(.array .byte)], returnType := some .int }, accessFlags := 9, code := some k8c5 }
def k8c6 : Code := { maxStack := 4, maxLocals := 4, code := jdk_43_method_39_code, exceptionTable := #[], attributes := #[] }
def k8m6 : Method := { name := "strip", desc := "([B)Ljava/lang/String;", sig := { parameters := [(.array .byte)], returnType := some (.object "java/lang/String") }, accessFlags := 9, code := some k8c6 }
def k8c7 : Code := { maxStack := 2, maxLocals := 2, code := jdk_43_method_44_code, exceptionTable := #[], attributes := #[] }
def k8m7 : Method := { name := "getChar", desc := "([BI)C", sig := { parameters := [(.array .byte), .int], returnType := some .char }, accessFlags := 9, code := some k8c7 }
def k8c8 : Code := { maxStack := 4, maxLocals := 1, code := jdk_43_method_46_code, exceptionTable := #[], attributes := #[] }
def k8m8 : Method := { name := "toBytes", desc := "(C)[B", sig := { parameters := [.char], returnType := some (.array .byte) }, accessFlags := 9, code := some k8c8 }
def k8c9 : Code := { maxStack := 6, maxLocals := 3, code := jdk_43_method_47_code, exceptionTable := #[], attributes := #[] }
def k8m9 : Method := { name := "newString", desc := "([BII)Ljava/lang/String;", sig := { parameters := [(.array .byte), .int, .int], returnType := some (.object "java/lang/String") }, accessFlags := 9, code := some k8c9 }
/-- java/lang/StringLatin1 -/
def k8 : Class := { plain "java/lang/StringLatin1" (some 0) with
  accessFlags := 48
  interfaces := #[]
  cf := some (fileOf pool8 14 #[.nestMembers #[390, 221]] #[{ accessFlags := 0, nameIndex := 7, descriptorIndex := 8, attributes := #[] }, { accessFlags := 9, nameIndex := 252, descriptorIndex := 53, attributes := #[] }, { accessFlags := 9, nameIndex := 90, descriptorIndex := 105, attributes := #[] }, { accessFlags := 9, nameIndex := 281, descriptorIndex := 282, attributes := #[] }, { accessFlags := 9, nameIndex := 216, descriptorIndex := 57, attributes := #[] }, { accessFlags := 9, nameIndex := 219, descriptorIndex := 57, attributes := #[] }, { accessFlags := 9, nameIndex := 371, descriptorIndex := 367, attributes := #[] }, { accessFlags := 9, nameIndex := 52, descriptorIndex := 53, attributes := #[] }, { accessFlags := 9, nameIndex := 380, descriptorIndex := 382, attributes := #[] }, { accessFlags := 9, nameIndex := 196, descriptorIndex := 197, attributes := #[] }] 48 4 #[] #[{ accessFlags := 4120, nameIndex := 121, descriptorIndex := 122, attributes := #[] }])
  fields := #[{ name := "$assertionsDisabled", type := .boolean, accessFlags := 4120, slot := 0, constantValue := 0 }]
  methods := #[k8m0, k8m1, k8m2, k8m3, k8m4, k8m5, k8m6, k8m7, k8m8, k8m9]
  instanceTypes := #[]
  staticTypes := #[.boolean]
  resolved := Array.replicate 395 none
  statics := none }

def pool9 : Array CpInfo := pool [(2, .class_ 4), (1, u "java/lang/Object"), (0, u "<init>"), (0, u "()V"), (17, .class_ 26), (1, u "jdk/internal/util/Preconditions"), (6, u "checkIndex"), (21, .class_ 56), (0, u "jdk/internal/util/Preconditions$4"), (57, .class_ 115), (0, u "jdk/internal/util/Preconditions$1"), (7, u "SIOOBE_FORMATTER"), (0, u "Ljava/util/function/BiFunction;"), (0, .class_ 126), (0, u "jdk/internal/util/Preconditions$2"), (3, u "AIOOBE_FORMATTER"), (0, .class_ 132), (0, u "jdk/internal/util/Preconditions$3"), (3, u "IOOBE_FORMATTER"), (41, u "(IILjava/util/function/BiFunction;)I")] 15

def k9m0 : Method := { name := "<init>", desc := "()V", sig := { parameters := [], returnType := none }, accessFlags := 1, code := none }
def k9c1 : Code := { maxStack := 3, maxLocals := 3, code := jdk_41_method_11_code, exceptionTable := #[], attributes := #[] }
def k9m1 : Method := { name := "checkIndex", desc := "(IILjava/util/function/BiFunction;)I", sig := { parameters := [.int, .int, (.object "java/util/function/BiFunction")], returnType := some .int }, accessFlags := 9, code := some k9c1 }
/-- jdk/internal/util/Preconditions -/
def k9 : Class := { plain "jdk/internal/util/Preconditions" (some 0) with
  accessFlags := 33
  interfaces := #[]
  cf := some (fileOf pool9 24 #[.nestMembers #[55, 131, 125, 114]] #[{ accessFlags := 1, nameIndex := 5, descriptorIndex := 6, attributes := #[] }, { accessFlags := 9, nameIndex := 33, descriptorIndex := 178, attributes := #[] }] 33 2 #[] #[{ accessFlags := 25, nameIndex := 123, descriptorIndex := 124, attributes := #[] }, { accessFlags := 25, nameIndex := 130, descriptorIndex := 124, attributes := #[] }, { accessFlags := 25, nameIndex := 136, descriptorIndex := 124, attributes := #[] }])
  fields := #[{ name := "SIOOBE_FORMATTER", type := (.object "java/util/function/BiFunction"), accessFlags := 25, slot := 0, constantValue := 0 }, { name := "AIOOBE_FORMATTER", type := (.object "java/util/function/BiFunction"), accessFlags := 25, slot := 1, constantValue := 0 }, { name := "IOOBE_FORMATTER", type := (.object "java/util/function/BiFunction"), accessFlags := 25, slot := 2, constantValue := 0 }]
  methods := #[k9m0, k9m1]
  instanceTypes := #[]
  staticTypes := #[(.object "java/util/function/BiFunction"), (.object "java/util/function/BiFunction"), (.object "java/util/function/BiFunction")]
  resolved := Array.replicate 194 none
  statics := some 1 }

def pool10 : Array CpInfo := pool [(2, .class_ 4), (1, u "java/lang/Object"), (0, u "<init>"), (0, u "()V"), (7, .class_ 16), (1, u "java/lang/String"), (30, .class_ 49), (1, u "com/example/tokenweave/tokenweave/engine/BpmnReader"), (53, u "(Ljava/lang/Object;)Z"), (43, .class_ 148), (0, u "com/example/tokenweave/tokenweave/engine/BpmnReader$Definitions"), (49, u "()Ljava/lang/String;"), (0, .methodref 14 200), (0, .nameAndType 201 103), (0, u "equals"), (5, u "FLOW_NODES"), (0, u "Ljava/util/Set;"), (5, u "SUB_PROCESSES"), (62, u "xmlBoolean"), (0, u "(Ljava/lang/String;Ljava/lang/String;Ljava/lang/String;)Z"), (5, .methodref 14 285), (0, .nameAndType 286 198), (0, u "strip"), (0, .string 288), (0, u "true"), (0, .string 290), (0, u "1"), (0, .string 292), (0, u "false"), (0, .string 294), (0, u "0"), (70, u "KNOWN_NAMESPACES"), (8, .class_ 375), (0, u "com/example/tokenweave/tokenweave/engine/BpmnReader$Extension"), (2, u "I"), (93, .class_ 473), (0, u "com/example/tokenweave/tokenweave/engine/BpmnReader$Strict"), (79, u "NAMESPACE"), (0, u "Ljava/lang/String;"), (1, u "EXTENSION_NAMESPACE"), (2, u "MAX_ELEMENT_DEPTH"), (1, u "DEPTH_PROPERTY")] 95

def k10m0 : Method := { name := "<init>", desc := "()V", sig := { parameters := [], returnType := none }, accessFlags := 2, code := none }
def k10c1 : Code := { maxStack := 5, maxLocals := 4, code := prog_17_method_10_code, exceptionTable := #[], attributes := #[] }
def k10m1 : Method := { name := "xmlBoolean", desc := "(Ljava/lang/String;Ljava/lang/String;Ljava/lang/String;)Z", sig := { parameters := [(.object "java/lang/String"), (.object "java/lang/String"), (.object "java/lang/String")], returnType := some .boolean }, accessFlags := 8, code := some k10c1 }
/-- com/example/tokenweave/tokenweave/engine/BpmnReader -/
def k10 : Class := { plain "com/example/tokenweave/tokenweave/engine/BpmnReader" (some 0) with
  accessFlags := 48
  interfaces := #[]
  cf := some (fileOf pool10 47 #[.nestMembers #[472, 374, 147]] #[{ accessFlags := 2, nameIndex := 5, descriptorIndex := 6, attributes := #[] }, { accessFlags := 8, nameIndex := 277, descriptorIndex := 278, attributes := #[] }] 48 2 #[] #[{ accessFlags := 24, nameIndex := 553, descriptorIndex := 554, attributes := #[] }, { accessFlags := 26, nameIndex := 556, descriptorIndex := 554, attributes := #[] }, { accessFlags := 26, nameIndex := 365, descriptorIndex := 208, attributes := #[] }, { accessFlags := 26, nameIndex := 207, descriptorIndex := 208, attributes := #[] }, { accessFlags := 26, nameIndex := 214, descriptorIndex := 208, attributes := #[] }, { accessFlags := 26, nameIndex := 559, descriptorIndex := 378, attributes := #[] }, { accessFlags := 26, nameIndex := 561, descriptorIndex := 554, attributes := #[] }])
  fields := #[{ name := "NAMESPACE", type := (.object "java/lang/String"), accessFlags := 24, slot := 0, constantValue := 0 }, { name := "EXTENSION_NAMESPACE", type := (.object "java/lang/String"), accessFlags := 26, slot := 1, constantValue := 0 }, { name := "KNOWN_NAMESPACES", type := (.object "java/util/Set"), accessFlags := 26, slot := 2, constantValue := 0 }, { name := "FLOW_NODES", type := (.object "java/util/Set"), accessFlags := 26, slot := 3, constantValue := 0 }, { name := "SUB_PROCESSES", type := (.object "java/util/Set"), accessFlags := 26, slot := 4, constantValue := 0 }, { name := "MAX_ELEMENT_DEPTH", type := .int, accessFlags := 26, slot := 5, constantValue := 0 }, { name := "DEPTH_PROPERTY", type := (.object "java/lang/String"), accessFlags := 26, slot := 6, constantValue := 0 }]
  methods := #[k10m0, k10m1]
  instanceTypes := #[]
  staticTypes := #[(.object "java/lang/String"), (.object "java/lang/String"), (.object "java/util/Set"), (.object "java/util/Set"), (.object "java/util/Set"), .int, (.object "java/lang/String")]
  resolved := Array.replicate 657 none
  statics := none }

def pool11 : Array CpInfo := pool [(2, .class_ 4), (1, u "java/lang/Object"), (0, u "<init>"), (0, u "()V"), (1, .class_ 10), (1, u "java/lang/CharacterData")] 75

def k11m0 : Method := { name := "<init>", desc := "()V", sig := { parameters := [], returnType := none }, accessFlags := 0, code := none }
/-- java/lang/CharacterData -/
def k11 : Class := { plain "java/lang/CharacterData" (some 0) with
  accessFlags := 1056
  interfaces := #[]
  cf := some (fileOf pool11 8 #[] #[{ accessFlags := 0, nameIndex := 5, descriptorIndex := 6, attributes := #[] }] 1056 2 #[] #[])
  fields := #[]
  methods := #[k11m0]
  instanceTypes := #[]
  staticTypes := #[]
  resolved := Array.replicate 86 none
  statics := none }

def pool12 : Array CpInfo := pool [(1, .fieldref 2 3), (0, .class_ 4), (0, .nameAndType 5 6), (0, u "java/lang/CharacterDataLatin1"), (0, u "A"), (0, u "[I"), (2, u "B"), (0, u "[C"), (3, u "(I)I"), (0, .methodref 2 16), (0, .nameAndType 17 14), (0, u "getProperties"), (3, u "(I)Z"), (5, u "DIGITS"), (0, u "[B"), (8, u "sharpsMap"), (1, .class_ 41), (1, u "java/lang/CharacterData"), (0, u "<init>"), (0, u "()V"), (3, u "instance"), (0, u "Ljava/lang/CharacterDataLatin1;"), (78, u "isWhitespace")] 13

def k12c0 : Code := { maxStack := 2, maxLocals := 4, code := jdk_116_method_1_code, exceptionTable := #[], attributes := #[] }
def k12m0 : Method := { name := "getProperties", desc := "(I)I", sig := { parameters := [.int], returnType := some .int }, accessFlags := 0, code := some k12c0 }
def k12c1 : Code := { maxStack := 2, maxLocals := 3, code := jdk_116_method_26_code, exceptionTable := #[], attributes := #[] }
def k12m1 : Method := { name := "isWhitespace", desc := "(I)Z", sig := { parameters := [.int], returnType := some .boolean }, accessFlags := 0, code := some k12c1 }
def k12m2 : Method := { name := "<init>", desc := "()V", sig := { parameters := [], returnType := none }, accessFlags := 2, code := none }
/-- java/lang/CharacterDataLatin1 -/
def k12 : Class := { plain "java/lang/CharacterDataLatin1" (some 11) with
  accessFlags := 32
  interfaces := #[]
  cf := some (fileOf pool12 2 #[] #[{ accessFlags := 0, nameIndex := 17, descriptorIndex := 14, attributes := #[] }, { accessFlags := 0, nameIndex := 127, descriptorIndex := 21, attributes := #[] }, { accessFlags := 2, nameIndex := 42, descriptorIndex := 43, attributes := #[] }] 32 39 #[] #[{ accessFlags := 26, nameIndex := 27, descriptorIndex := 28, attributes := #[] }, { accessFlags := 8, nameIndex := 37, descriptorIndex := 10, attributes := #[] }, { accessFlags := 24, nameIndex := 47, descriptorIndex := 48, attributes := #[] }, { accessFlags := 24, nameIndex := 5, descriptorIndex := 6, attributes := #[] }, { accessFlags := 24, nameIndex := 9, descriptorIndex := 10, attributes := #[] }])
  fields := #[{ name := "DIGITS", type := (.array .byte), accessFlags := 26, slot := 0, constantValue := 0 }, { name := "sharpsMap", type := (.array .char), accessFlags := 8, slot := 1, constantValue := 0 }, { name := "instance", type := (.object "java/lang/CharacterDataLatin1"), accessFlags := 24, slot := 2, constantValue := 0 }, { name := "A", type := (.array .int), accessFlags := 24, slot := 3, constantValue := 0 }, { name := "B", type := (.array .char), accessFlags := 24, slot := 4, constantValue := 0 }]
  methods := #[k12m0, k12m1, k12m2]
  instanceTypes := #[]
  staticTypes := #[(.array .byte), (.array .char), (.object "java/lang/CharacterDataLatin1"), (.array .int), (.array .char)]
  resolved := Array.replicate 141 none
  statics := some 2 }

def pool13 : Array CpInfo := pool [(6, .class_ 8), (1, u "java/lang/Object"), (0, u "<init>"), (0, u "()V"), (1, .class_ 14), (1, u "java/lang/StringUTF16"), (31, u "$assertionsDisabled"), (0, u "Z"), (13, u "HI_BYTE_SHIFT"), (0, u "I"), (2, u "LO_BYTE_SHIFT"), (49, .methodref 12 116), (0, .nameAndType 117 118), (0, u "compress"), (0, u "([CI[BII)I"), (3, u "([CII)[B"), (138, u "coderFromArrayLen"), (0, u "([BI)B"), (106, .class_ 371), (1, u "java/lang/StringUTF16$LinesSpliterator"), (58, u "MAX_LENGTH"), (196, .class_ 628), (0, u "java/lang/StringUTF16$CodePointsSpliterator"), (0, .class_ 630), (0, u "java/lang/StringUTF16$CharsSpliterator")] 4

def k13m0 : Method := { name := "<init>", desc := "()V", sig := { parameters := [], returnType := none }, accessFlags := 0, code := none }
def k13c1 : Code := { maxStack := 2, maxLocals := 2, code := jdk_52_method_15_code, exceptionTable := #[], attributes := #[] }
def k13m1 : Method := { name := "coderFromArrayLen", desc := "([BI)B", sig := { parameters := [(.array .byte), .int], returnType := some .byte }, accessFlags := 8, code := some k13c1 }
def k13c2 : Code := { maxStack := 5, maxLocals := 6, code := jdk_52_method_16_code, exceptionTable := #[], attributes := #[] }
def k13m2 : Method := { name := "compress", desc := "([CII)[B", sig := { parameters := [(.array .char), .int, .int], returnType := some (.array .byte) }, accessFlags := 9, code := some k13c2 }
def k13c3 : Code := { maxStack := 3, maxLocals := 7, code := jdk_52_method_21_code, exceptionTable := #[], attributes := #[] }
def k13m3 : Method := { name := "compress", desc := "([CI[BII)I", sig := { parameters := [(.array .char), .int, (.array .byte), .int, .int], returnType := some .int }, accessFlags := 9, code := some k13c3 }
/-- java/lang/StringUTF16 -/
def k13 : Class := { plain "java/lang/StringUTF16" (some 0) with
  accessFlags := 48
  interfaces := #[]
  cf := some (fileOf pool13 12 #[.nestMembers #[627, 629, 369]] #[{ accessFlags := 0, nameIndex := 9, descriptorIndex := 10, attributes := #[] }, { accessFlags := 8, nameIndex := 261, descriptorIndex := 262, attributes := #[] }, { accessFlags := 9, nameIndex := 117, descriptorIndex := 122, attributes := #[] }, { accessFlags := 9, nameIndex := 117, descriptorIndex := 118, attributes := #[] }] 48 6 #[] #[{ accessFlags := 26, nameIndex := 61, descriptorIndex := 62, attributes := #[] }, { accessFlags := 26, nameIndex := 65, descriptorIndex := 62, attributes := #[] }, { accessFlags := 24, nameIndex := 430, descriptorIndex := 62, attributes := #[] }, { accessFlags := 4120, nameIndex := 46, descriptorIndex := 47, attributes := #[] }])
  fields := #[{ name := "HI_BYTE_SHIFT", type := .int, accessFlags := 26, slot := 0, constantValue := 0 }, { name := "LO_BYTE_SHIFT", type := .int, accessFlags := 26, slot := 1, constantValue := 0 }, { name := "MAX_LENGTH", type := .int, accessFlags := 24, slot := 2, constantValue := 0 }, { name := "$assertionsDisabled", type := .boolean, accessFlags := 4120, slot := 3, constantValue := 0 }]
  methods := #[k13m0, k13m1, k13m2, k13m3]
  instanceTypes := #[]
  staticTypes := #[.int, .int, .int, .boolean]
  resolved := Array.replicate 635 none
  statics := none }

def pool14 : Array CpInfo := pool [(2, .class_ 4), (1, u "java/lang/Object"), (0, u "<init>"), (0, u "()V"), (7, .class_ 16), (1, u "java/util/Arrays"), (57, .class_ 76), (1, u "java/util/Arrays$NaturalOrder"), (36, .class_ 115), (1, u "java/util/Arrays$LegacyMergeSort"), (1, u "Z"), (21, u "copyOfRange"), (10, .methodref 151 152), (0, .class_ 153), (0, .nameAndType 154 155), (0, u "java/lang/System"), (0, u "arraycopy"), (0, u "(Ljava/lang/Object;ILjava/lang/Object;II)V"), (148, .methodref 305 306), (0, .class_ 307), (0, .nameAndType 308 309), (0, u "java/lang/Math"), (0, u "min"), (0, u "(II)I"), (29, .methodref 14 340), (0, .nameAndType 341 342), (0, u "copyOfRangeByte"), (0, u "([BII)[B"), (0, .methodref 14 344), (0, .nameAndType 345 346), (0, u "checkLength"), (0, u "(II)V"), (28, .class_ 376), (0, u "java/util/Arrays$ArrayList"), (68, u "$assertionsDisabled"), (269, u "MIN_ARRAY_SORT_GRAN"), (0, u "I"), (2, u "INSERTIONSORT_THRESHOLD"), (255, .class_ 976), (0, u "java/util/Arrays$ArrayItr")] 52

def k14m0 : Method := { name := "<init>", desc := "()V", sig := { parameters := [], returnType := none }, accessFlags := 2, code := none }
def k14c1 : Code := { maxStack := 4, maxLocals := 2, code := jdk_65_method_131_code, exceptionTable := #[], attributes := #[] }
def k14m1 : Method := { name := "checkLength", desc := "(II)V", sig := { parameters := [.int, .int], returnType := none }, accessFlags := 10, code := some k14c1 }
def k14c2 : Code := { maxStack := 3, maxLocals := 3, code := jdk_65_method_132_code, exceptionTable := #[], attributes := #[] }
def k14m2 : Method := { name := "copyOfRange", desc := "([BII)[B", sig := { parameters := [(.array .byte), .int, .int], returnType := some (.array .byte) }, accessFlags := 9, code := some k14c2 }
def k14c3 : Code := { maxStack := 6, maxLocals := 5, code := jdk_65_method_133_code, exceptionTable := #[], attributes := #[] }
def k14m3 : Method := { name := "copyOfRangeByte", desc := "([BII)[B", sig := { parameters := [(.array .byte), .int, .int], returnType := some (.array .byte) }, accessFlags := 10, code := some k14c3 }
/-- java/util/Arrays -/
def k14 : Class := { plain "java/util/Arrays" (some 0) with
  accessFlags := 49
  interfaces := #[]
  cf := some (fileOf pool14 14 #[.nestMembers #[975, 375, 113, 74]] #[{ accessFlags := 2, nameIndex := 5, descriptorIndex := 6, attributes := #[] }, { accessFlags := 10, nameIndex := 345, descriptorIndex := 346, attributes := #[] }, { accessFlags := 9, nameIndex := 139, descriptorIndex := 342, attributes := #[] }, { accessFlags := 10, nameIndex := 341, descriptorIndex := 342, attributes := #[] }] 49 2 #[] #[{ accessFlags := 26, nameIndex := 715, descriptorIndex := 716, attributes := #[] }, { accessFlags := 26, nameIndex := 719, descriptorIndex := 716, attributes := #[] }, { accessFlags := 4120, nameIndex := 445, descriptorIndex := 117, attributes := #[] }])
  fields := #[{ name := "MIN_ARRAY_SORT_GRAN", type := .int, accessFlags := 26, slot := 0, constantValue := 0 }, { name := "INSERTIONSORT_THRESHOLD", type := .int, accessFlags := 26, slot := 1, constantValue := 0 }, { name := "$assertionsDisabled", type := .boolean, accessFlags := 4120, slot := 2, constantValue := 0 }]
  methods := #[k14m0, k14m1, k14m2, k14m3]
  instanceTypes := #[]
  staticTypes := #[.int, .int, .boolean]
  resolved := Array.replicate 1029 none
  statics := none }

def pool15 : Array CpInfo := pool [(1, .class_ 2), (0, u "java/lang/Math"), (1, .class_ 6), (1, u "java/lang/Object"), (0, u "<init>"), (0, u "()V"), (89, .class_ 100), (1, u "java/lang/Math$RandomNumberGeneratorHolder"), (71, u "negativeZeroFloatBits"), (0, u "J"), (2, u "negativeZeroDoubleBits"), (24, u "min"), (43, u "$assertionsDisabled"), (0, u "Z"), (88, u "(II)I"), (2, u "twoToTheDoubleScaleDown"), (0, u "D"), (4, u "twoToTheDoubleScaleUp"), (9, u "E"), (3, u "PI"), (2, u "TAU"), (2, u "DEGREES_TO_RADIANS"), (0, u "RADIANS_TO_DEGREES")] 94

def k15m0 : Method := { name := "<init>", desc := "()V", sig := { parameters := [], returnType := none }, accessFlags := 2, code := none }
def k15c1 : Code := { maxStack := 2, maxLocals := 2, code := jdk_29_method_69_code, exceptionTable := #[], attributes := #[] }
def k15m1 : Method := { name := "min", desc := "(II)I", sig := { parameters := [.int, .int], returnType := some .int }, accessFlags := 9, code := some k15c1 }
/-- java/lang/Math -/
def k15 : Class := { plain "java/lang/Math" (some 0) with
  accessFlags := 49
  interfaces := #[]
  cf := some (fileOf pool15 1 #[.nestMembers #[98]] #[{ accessFlags := 2, nameIndex := 7, descriptorIndex := 8, attributes := #[] }, { accessFlags := 9, nameIndex := 201, descriptorIndex := 335, attributes := #[] }] 49 4 #[] #[{ accessFlags := 25, nameIndex := 354, descriptorIndex := 339, attributes := #[] }, { accessFlags := 25, nameIndex := 358, descriptorIndex := 339, attributes := #[] }, { accessFlags := 25, nameIndex := 361, descriptorIndex := 339, attributes := #[] }, { accessFlags := 26, nameIndex := 364, descriptorIndex := 339, attributes := #[] }, { accessFlags := 26, nameIndex := 365, descriptorIndex := 339, attributes := #[] }, { accessFlags := 26, nameIndex := 172, descriptorIndex := 173, attributes := #[] }, { accessFlags := 26, nameIndex := 176, descriptorIndex := 173, attributes := #[] }, { accessFlags := 8, nameIndex := 344, descriptorIndex := 339, attributes := #[] }, { accessFlags := 8, nameIndex := 338, descriptorIndex := 339, attributes := #[] }, { accessFlags := 4120, nameIndex := 245, descriptorIndex := 246, attributes := #[] }])
  fields := #[{ name := "E", type := .double, accessFlags := 25, slot := 0, constantValue := 0 }, { name := "PI", type := .double, accessFlags := 25, slot := 1, constantValue := 0 }, { name := "TAU", type := .double, accessFlags := 25, slot := 2, constantValue := 0 }, { name := "DEGREES_TO_RADIANS", type := .double, accessFlags := 26, slot := 3, constantValue := 0 }, { name := "RADIANS_TO_DEGREES", type := .double, accessFlags := 26, slot := 4, constantValue := 0 }, { name := "negativeZeroFloatBits", type := .long, accessFlags := 26, slot := 5, constantValue := 0 }, { name := "negativeZeroDoubleBits", type := .long, accessFlags := 26, slot := 6, constantValue := 0 }, { name := "twoToTheDoubleScaleUp", type := .double, accessFlags := 8, slot := 7, constantValue := 0 }, { name := "twoToTheDoubleScaleDown", type := .double, accessFlags := 8, slot := 8, constantValue := 0 }, { name := "$assertionsDisabled", type := .boolean, accessFlags := 4120, slot := 9, constantValue := 0 }]
  methods := #[k15m0, k15m1]
  instanceTypes := #[]
  staticTypes := #[.double, .double, .double, .double, .double, .long, .long, .double, .double, .boolean]
  resolved := Array.replicate 460 none
  statics := none }

def pool16 : Array CpInfo := pool [(2, .class_ 4), (1, u "java/lang/Object"), (0, u "<init>"), (0, u "()V"), (1, .class_ 10), (1, u "java/lang/System"), (0, u "allowSecurityManager"), (0, u "I"), (16, u "cons"), (0, u "Ljava/io/Console;"), (77, .class_ 110), (1, u "java/lang/System$CallersHolder"), (43, u "initialErrStream"), (0, u "Ljava/io/PrintStream;"), (19, u "security"), (0, u "Ljava/lang/SecurityManager;"), (31, .class_ 209), (0, u "java/lang/System$1"), (7, u "props"), (0, u "Ljava/util/Properties;"), (2, u "lineSeparator"), (0, u "Ljava/lang/String;"), (96, .class_ 321), (1, u "java/lang/System$LoggerFinder"), (5, .class_ 328), (0, u "java/lang/System$Logger"), (67, u "err"), (2, u "out"), (91, u "notSupportedJnuEncoding"), (15, u "in"), (17, u "initialIn"), (0, u "Ljava/io/InputStream;"), (35, u "bootLayer"), (0, u "Ljava/lang/ModuleLayer;"), (99, .class_ 664), (0, u "java/lang/System$2"), (9, u "NEVER"), (2, u "MAYBE"), (49, u "arraycopy"), (0, u "(Ljava/lang/Object;ILjava/lang/Object;II)V"), (72, .class_ 802), (0, u "java/lang/System$Logger$Level")] 31

def k16m0 : Method := { name := "<init>", desc := "()V", sig := { parameters := [], returnType := none }, accessFlags := 2, code := none }
def k16m1 : Method := { name := "arraycopy", desc := "(Ljava/lang/Object;ILjava/lang/Object;II)V", sig := { parameters := [(.object "java/lang/Object"), .int, (.object "java/lang/Object"), .int, .int], returnType := none }, accessFlags := 265, code := none }
/-- java/lang/System -/
def k16 : Class := { plain "java/lang/System" (some 0) with
  accessFlags := 49
  interfaces := #[]
  cf := some (fileOf pool16 8 #[.nestMembers #[319, 327, 801, 108, 663, 208]] #[{ accessFlags := 2, nameIndex := 5, descriptorIndex := 6, attributes := #[] }, { accessFlags := 265, nameIndex := 727, descriptorIndex := 728, attributes := #[] }] 49 2 #[] #[{ accessFlags := 25, nameIndex := 507, descriptorIndex := 526, attributes := #[] }, { accessFlags := 25, nameIndex := 399, descriptorIndex := 155, attributes := #[] }, { accessFlags := 25, nameIndex := 396, descriptorIndex := 155, attributes := #[] }, { accessFlags := 10, nameIndex := 525, descriptorIndex := 526, attributes := #[] }, { accessFlags := 26, nameIndex := 674, descriptorIndex := 12, attributes := #[] }, { accessFlags := 26, nameIndex := 677, descriptorIndex := 12, attributes := #[] }, { accessFlags := 10, nameIndex := 11, descriptorIndex := 12, attributes := #[] }, { accessFlags := 74, nameIndex := 175, descriptorIndex := 176, attributes := #[] }, { accessFlags := 10, nameIndex := 491, descriptorIndex := 222, attributes := #[] }, { accessFlags := 74, nameIndex := 29, descriptorIndex := 30, attributes := #[] }, { accessFlags := 74, nameIndex := 154, descriptorIndex := 155, attributes := #[] }, { accessFlags := 10, nameIndex := 217, descriptorIndex := 218, attributes := #[] }, { accessFlags := 10, nameIndex := 221, descriptorIndex := 222, attributes := #[] }, { accessFlags := 8, nameIndex := 562, descriptorIndex := 563, attributes := #[] }])
  fields := #[{ name := "in", type := (.object "java/io/InputStream"), accessFlags := 25, slot := 0, constantValue := 0 }, { name := "out", type := (.object "java/io/PrintStream"), accessFlags := 25, slot := 1, constantValue := 0 }, { name := "err", type := (.object "java/io/PrintStream"), accessFlags := 25, slot := 2, constantValue := 0 }, { name := "initialIn", type := (.object "java/io/InputStream"), accessFlags := 10, slot := 3, constantValue := 0 }, { name := "NEVER", type := .int, accessFlags := 26, slot := 4, constantValue := 0 }, { name := "MAYBE", type := .int, accessFlags := 26, slot := 5, constantValue := 0 }, { name := "allowSecurityManager", type := .int, accessFlags := 10, slot := 6, constantValue := 0 }, { name := "security", type := (.object "java/lang/SecurityManager"), accessFlags := 74, slot := 7, constantValue := 0 }, { name := "notSupportedJnuEncoding", type := (.object "java/lang/String"), accessFlags := 10, slot := 8, constantValue := 0 }, { name := "cons", type := (.object "java/io/Console"), accessFlags := 74, slot := 9, constantValue := 0 }, { name := "initialErrStream", type := (.object "java/io/PrintStream"), accessFlags := 74, slot := 10, constantValue := 0 }, { name := "props", type := (.object "java/util/Properties"), accessFlags := 10, slot := 11, constantValue := 0 }, { name := "lineSeparator", type := (.object "java/lang/String"), accessFlags := 10, slot := 12, constantValue := 0 }, { name := "bootLayer", type := (.object "java/lang/ModuleLayer"), accessFlags := 8, slot := 13, constantValue := 0 }]
  methods := #[k16m0, k16m1]
  instanceTypes := #[]
  staticTypes := #[(.object "java/io/InputStream"), (.object "java/io/PrintStream"), (.object "java/io/PrintStream"), (.object "java/io/InputStream"), .int, .int, .int, (.object "java/lang/SecurityManager"), (.object "java/lang/String"), (.object "java/io/Console"), (.object "java/io/PrintStream"), (.object "java/util/Properties"), (.object "java/lang/String"), (.object "java/lang/ModuleLayer")]
  resolved := Array.replicate 834 none
  statics := none }

def pool17 : Array CpInfo := pool [(1, u "java/lang/Cloneable"), (0, .class_ 1), (0, u "java/lang/Object"), (0, .class_ 3)] 3

/-- java/lang/Cloneable -/
def k17 : Class := { plain "java/lang/Cloneable" (some 0) with
  accessFlags := 1537
  interfaces := #[]
  cf := some (fileOf pool17 2 #[] #[] 1537 4 #[] #[])
  fields := #[]
  methods := #[]
  instanceTypes := #[]
  staticTypes := #[]
  resolved := Array.replicate 8 none
  statics := none }

/-- the primitive byte -/
def k18 : Class := { plain "byte" none with kind := .primitive 'B', accessFlags := 0x411 }
/-- [B -/
def k19 : Class := { plain "[B" (some 0) with kind := .array 18 .byte, interfaces := #[17, 2], accessFlags := 1041 }

/-- the primitive char -/
def k20 : Class := { plain "char" none with kind := .primitive 'C', accessFlags := 0x411 }
/-- [C -/
def k21 : Class := { plain "[C" (some 0) with kind := .array 20 .char, interfaces := #[17, 2], accessFlags := 1041 }

/-- the primitive int -/
def k22 : Class := { plain "int" none with kind := .primitive 'I', accessFlags := 0x411 }
/-- [I -/
def k23 : Class := { plain "[I" (some 0) with kind := .array 22 .int, interfaces := #[17, 2], accessFlags := 1041 }

def k24 : Class := plain "jdk/internal/util/ArraysSupport" (some 0)
def heap : Heap := #[{ cls := 7, slots := #[.long 0, .int 1, .null, .int 0, .null, .int 0, .int 0], vm := .statics 7 },
  { cls := 9, slots := #[.null, .null, .null], vm := .statics 9 },
  { cls := 12, slots := #[.null, .null, .ref 3, .ref 4, .null], vm := .statics 12 },
  { cls := 12, slots := #[], vm := .none },
  { cls := 23, slots := #[.int 1207963663, .int 1207963663, .int 1207963663, .int 1207963663, .int 1207963663, .int 1207963663, .int 1207963663, .int 1207963663, .int 1207963663, .int 1476411407, .int 1342193679, .int 1476411407, .int 1610629135, .int 1342193679, .int 1207963663, .int 1207963663, .int 1207963663, .int 1207963663, .int 1207963663, .int 1207963663, .int 1207963663, .int 1207963663, .int 1207963663, .int 1207963663, .int 1207963663, .int 1207963663, .int 1207963663, .int 1207963663, .int 1342193679, .int 1342193679, .int 1342193679, .int 1476411407, .int 1610629132, .int 1744830488, .int 1744830488, .int 671088664, .int 671113242, .int 671088664, .int 1744830488, .int 1744830488, .int (-402653163), .int (-402653162), .int 1744830488, .int 536870937, .int 939524120, .int 536870932, .int 939524120, .int 939524120, .int 402667017, .int 402667017, .int 402667017, .int 402667017, .int 402667017, .int 402667017, .int 402667017, .int 402667017, .int 402667017, .int 402667017, .int 939524120, .int 1744830488, .int (-402653159), .int 1744830489, .int (-402653159), .int 1744830488, .int 1744830488, .int 8552417, .int 8552417, .int 8552417, .int 8552417, .int 8552417, .int 8552417, .int 8552417, .int 8552417, .int 8552417, .int 8552417, .int 8552417, .int 8552417, .int 8552417, .int 8552417, .int 8552417, .int 8552417, .int 8552417, .int 8552417, .int 8552417, .int 8552417, .int 8552417, .int 8552417, .int 8552417, .int 8552417, .int 8552417, .int 8552417, .int (-402653163), .int 1744830488, .int (-402653162), .int 1744830491, .int 1744850967, .int 1744830491, .int 8486882, .int 8486882, .int 8486882, .int 8486882, .int 8486882, .int 8486882, .int 8486882, .int 8486882, .int 8486882, .int 8486882, .int 8486882, .int 8486882, .int 8486882, .int 8486882, .int 8486882, .int 8486882, .int 8486882, .int 8486882, .int 8486882, .int 8486882, .int 8486882, .int 8486882, .int 8486882, .int 8486882, .int 8486882, .int 8486882, .int (-402653163), .int 1744830489, .int (-402653162), .int 1744830489, .int 1207963663, .int 1207963663, .int 1207963663, .int 1207963663, .int 1207963663, .int 1207963663, .int 1342181391, .int 1207963663, .int 1207963663, .int 1207963663, .int 1207963663, .int 1207963663, .int 1207963663, .int 1207963663, .int 1207963663, .int 1207963663, .int 1207963663, .int 1207963663, .int 1207963663, .int 1207963663, .int 1207963663, .int 1207963663, .int 1207963663, .int 1207963663, .int 1207963663, .int 1207963663, .int 1207963663, .int 1207963663, .int 1207963663, .int 1207963663, .int 1207963663, .int 1207963663, .int 1207963663, .int 939524108, .int 1744830488, .int 671113242, .int 671113242, .int 671113242, .int 671113242, .int 1744830492, .int 1744830488, .int 1744830491, .int 1744830492, .int 28677, .int (-402653155), .int 1744830489, .int 1207963664, .int 1744830492, .int 1744830491, .int 671088668, .int 671088665, .int 402654731, .int 402654731, .int 1744830491, .int 134049794, .int 1744830488, .int 1744830488, .int 1744830491, .int 402654475, .int 28677, .int (-402653154), .int 1744832523, .int 1744832523, .int 1744832523, .int 1744830488, .int 8548353, .int 8548353, .int 8548353, .int 8548353, .int 8548353, .int 8548353, .int 8548353, .int 8548353, .int 8548353, .int 8548353, .int 8548353, .int 8548353, .int 8548353, .int 8548353, .int 8548353, .int 8548353, .int 8548353, .int 8548353, .int 8548353, .int 8548353, .int 8548353, .int 8548353, .int 8548353, .int 1744830489, .int 8548353, .int 8548353, .int 8548353, .int 8548353, .int 8548353, .int 8548353, .int 8548353, .int 134049794, .int 8482818, .int 8482818, .int 8482818, .int 8482818, .int 8482818, .int 8482818, .int 8482818, .int 8482818, .int 8482818, .int 8482818, .int 8482818, .int 8482818, .int 8482818, .int 8482818, .int 8482818, .int 8482818, .int 8482818, .int 8482818, .int 8482818, .int 8482818, .int 8482818, .int 8482818, .int 8482818, .int 1744830489, .int 8482818, .int 8482818, .int 8482818, .int 8482818, .int 8482818, .int 8482818, .int 8482818, .int 102592514], vm := .none }]
def classes : Array Class := #[k0, k1, k2, k3, k4, k5, k6, k7, k8, k9, k10, k11, k12, k13, k14, k15, k16, k17, k18, k19, k20, k21, k22, k23, k24]
def interned : List (Array UInt16 × Addr) := []
def slotsUsed : Nat := 271
def theMethod : MethodId := ⟨1, 1⟩
def args0 : Array Value := #[.int 1, .int 2, .long 3, .int 1, .int 65]
def aboutOver (below : List Frame) : State where
  vm := { classes := classes, interned := interned.toArray }
  heap := heap
  slotsUsed := slotsUsed
  threads := #[{ frames := .invoking theMethod args0 :: below }]
def below0 : List Frame := [.native { method := ⟨0, 0⟩, args := #[] }]
def about1 : State := aboutOver below0
def p0 : Program := .bare "" "" ""
def e0 : Env := launch0.env 0 0 0
theorem w_frames : about1.frames = Frame.invoking theMethod args0 :: below0 := rfl
set_option maxRecDepth 65536 in
theorem w_args : argsFit about1.vm theMethod args0 = true := by decide +kernel
set_option maxRecDepth 65536 in
theorem w_heap : heapFits about1 = true := by decide +kernel
set_option maxRecDepth 65536 in
theorem w_runnable : about1.curStatus? = some .runnable := by decide +kernel
set_option maxRecDepth 65536 in
theorem w_alone : about1.alone = true := by decide +kernel
set_option maxRecDepth 65536 in
theorem w_named : about1.methodNamed? x = some theMethod := by decide +kernel
set_option maxRecDepth 65536 in
theorem w_hears : about1.hears theMethod below0 = true := by decide +kernel
set_option maxRecDepth 65536 in
theorem w_ripe : about1.ripe theMethod args0 below0 = true := by decide +kernel
theorem w_running : about1.status = .running := rfl
set_option maxRecDepth 65536 in
theorem w_room : about1.hasRoom e0.platform room_1 = true :=
  launch0.hasRoom_least _ room_1 (by decide +kernel) (by decide +kernel) (by decide +kernel) (by decide +kernel) (by decide +kernel) (by decide +kernel)
theorem allAtoms_all (ts : List Jvm.Cond) (a : Array Jvm.Value) (st : Jvm.State) : (allAtoms ts).before a st = ts.all (fun c => c.before a st) := by
  induction ts with
  | nil => rfl
  | cons c t ih =>
    show (Jvm.Cond.and c (allAtoms t)).before a st = _
    rw [Jvm.Cond.before_and, ih, List.all_cons]
def words1 : List Jvm.Cond := Jvm.Cond.code x code maxLocals ret :: tables_1
/-- a 'code' word, met by the world's own term for the bytes: nothing is compared byte by byte -/
theorem code_word {y : MethodName} {bytes : ByteArray} {mx : Nat} {rt : Option FieldType} {a : Array Value} {s : State} {m : MethodId} {meth : Method} {c : Code} (h1 : s.methodNamed? y = some m) (h2 : s.vm.method? m = some meth) (h3 : meth.code = some c) (h4 : c.code = bytes)
    (h5 : (c.maxLocals == mx && c.exceptionTable.isEmpty && decide (c.maxStack ≤ mostOperands) && decide (meth.sig.returnType = rt) && !meth.locks && decide (parseMethodDescriptor y.desc = some meth.sig)) = true) : (Jvm.Cond.code y bytes mx rt).before a s = true := by
  simp only [Bool.and_eq_true, beq_iff_eq, Bool.not_eq_true', decide_eq_true_eq] at h5
  obtain ⟨⟨⟨⟨⟨g1, g2⟩, g3⟩, g4⟩, g5⟩, g6⟩ := h5
  simp [Cond.before, Cond.holds, Cond.value, h1, h2, h3, h4, g1, g2, g3, g4, g5, g6]
def isCode : Jvm.Cond → Bool
  | .code _ _ _ _ => true
  | _ => false
theorem all_split {L : List Jvm.Cond} {P : Jvm.Cond → Bool} (h1 : L.all (fun c => isCode c || P c) = true) (h2 : ∀ c ∈ L.filter isCode, P c = true) : L.all P = true := by
  refine List.all_eq_true.mpr fun c hc => ?_
  have h := List.all_eq_true.mp h1 c hc
  rcases Bool.eq_false_or_eq_true (isCode c) with hi | hi
  · exact h2 c (List.mem_filter.mpr ⟨hc, hi⟩)
  · simpa [hi] using h
set_option maxRecDepth 65536 in
theorem w_c0 : (Jvm.Cond.code x code maxLocals ret).before args0 about1 = true := code_word (m := ⟨1, 1⟩) (meth := k1m1) (c := k1c1) (by decide +kernel) rfl rfl rfl (by decide +kernel)
set_option maxRecDepth 65536 in
theorem w_c1 : (Jvm.Cond.code ({ cls := "java/lang/String", name := "length", desc := "()I" } : Jvm.MethodName) jdk_42_method_54_code (1 : Nat) (Option.some Jvm.ClassFile.FieldType.int)).before args0 about1 = true := code_word (m := ⟨7, 2⟩) (meth := k7m2) (c := k7c2) (by decide +kernel) rfl rfl rfl (by decide +kernel)
set_option maxRecDepth 65536 in
theorem w_c2 : (Jvm.Cond.code ({ cls := "java/lang/String", name := "coder", desc := "()B" } : Jvm.MethodName) jdk_42_method_152_code (1 : Nat) (Option.some Jvm.ClassFile.FieldType.byte)).before args0 about1 = true := code_word (m := ⟨7, 9⟩) (meth := k7m9) (c := k7c9) (by decide +kernel) rfl rfl rfl (by decide +kernel)
set_option maxRecDepth 65536 in
theorem w_c3 : (Jvm.Cond.code ({ cls := "com/example/tokenweave/tokenweave/engine/BpmnReaderXmlBooleanPinLaw", name := "space", desc := "(JI)C" } : Jvm.MethodName) method_3_code (4 : Nat) (Option.some Jvm.ClassFile.FieldType.char)).before args0 about1 = true := code_word (m := ⟨1, 2⟩) (meth := k1m2) (c := k1c2) (by decide +kernel) rfl rfl rfl (by decide +kernel)
set_option maxRecDepth 65536 in
theorem w_c4 : (Jvm.Cond.code ({ cls := "java/lang/String", name := "charAt", desc := "(I)C" } : Jvm.MethodName) jdk_42_method_56_code (2 : Nat) (Option.some Jvm.ClassFile.FieldType.char)).before args0 about1 = true := code_word (m := ⟨7, 3⟩) (meth := k7m3) (c := k7c3) (by decide +kernel) rfl rfl rfl (by decide +kernel)
set_option maxRecDepth 65536 in
theorem w_c5 : (Jvm.Cond.code ({ cls := "java/lang/String", name := "isLatin1", desc := "()Z" } : Jvm.MethodName) jdk_42_method_154_code (1 : Nat) (Option.some Jvm.ClassFile.FieldType.boolean)).before args0 about1 = true := code_word (m := ⟨7, 10⟩) (meth := k7m10) (c := k7c10) (by decide +kernel) rfl rfl rfl (by decide +kernel)
set_option maxRecDepth 65536 in
theorem w_c6 : (Jvm.Cond.code ({ cls := "java/lang/StringLatin1", name := "charAt", desc := "([BI)C" } : Jvm.MethodName) jdk_43_method_2_code (2 : Nat) (Option.some Jvm.ClassFile.FieldType.char)).before args0 about1 = true := code_word (m := ⟨8, 1⟩) (meth := k8m1) (c := k8c1) (by decide +kernel) rfl rfl rfl (by decide +kernel)
set_option maxRecDepth 65536 in
theorem w_c7 : (Jvm.Cond.code ({ cls := "java/lang/String", name := "checkIndex", desc := "(II)V" } : Jvm.MethodName) jdk_42_method_155_code (2 : Nat) (Option.none : Option Jvm.ClassFile.FieldType)).before args0 about1 = true := code_word (m := ⟨7, 11⟩) (meth := k7m11) (c := k7c11) (by decide +kernel) rfl rfl rfl (by decide +kernel)
set_option maxRecDepth 65536 in
theorem w_c8 : (Jvm.Cond.code ({ cls := "jdk/internal/util/Preconditions", name := "checkIndex", desc := "(IILjava/util/function/BiFunction;)I" } : Jvm.MethodName) jdk_41_method_11_code (3 : Nat) (Option.some Jvm.ClassFile.FieldType.int)).before args0 about1 = true := code_word (m := ⟨9, 1⟩) (meth := k9m1) (c := k9c1) (by decide +kernel) rfl rfl rfl (by decide +kernel)
set_option maxRecDepth 65536 in
theorem w_c9 : (Jvm.Cond.code ({ cls := "java/lang/String", name := "valueOf", desc := "(C)Ljava/lang/String;" } : Jvm.MethodName) jdk_42_method_139_code (1 : Nat) (Option.some (Jvm.ClassFile.FieldType.object "java/lang/String"))).before args0 about1 = true := code_word (m := ⟨7, 6⟩) (meth := k7m6) (c := k7c6) (by decide +kernel) rfl rfl rfl (by decide +kernel)
set_option maxRecDepth 65536 in
theorem w_c10 : (Jvm.Cond.code ({ cls := "java/lang/StringLatin1", name := "canEncode", desc := "(C)Z" } : Jvm.MethodName) jdk_43_method_3_code (1 : Nat) (Option.some Jvm.ClassFile.FieldType.boolean)).before args0 about1 = true := code_word (m := ⟨8, 2⟩) (meth := k8m2) (c := k8c2) (by decide +kernel) rfl rfl rfl (by decide +kernel)
set_option maxRecDepth 65536 in
theorem w_c11 : (Jvm.Cond.code ({ cls := "java/lang/StringLatin1", name := "toBytes", desc := "(C)[B" } : Jvm.MethodName) jdk_43_method_46_code (1 : Nat) (Option.some (Jvm.ClassFile.FieldType.array Jvm.ClassFile.FieldType.byte))).before args0 about1 = true := code_word (m := ⟨8, 8⟩) (meth := k8m8) (c := k8c8) (by decide +kernel) rfl rfl rfl (by decide +kernel)
set_option maxRecDepth 65536 in
theorem w_c12 : (Jvm.Cond.code ({ cls := "java/lang/String", name := "<init>", desc := "([BB)V" } : Jvm.MethodName) jdk_42_method_151_code (3 : Nat) (Option.none : Option Jvm.ClassFile.FieldType)).before args0 about1 = true := code_word (m := ⟨7, 8⟩) (meth := k7m8) (c := k7c8) (by decide +kernel) rfl rfl rfl (by decide +kernel)
set_option maxRecDepth 65536 in
theorem w_c13 : (Jvm.Cond.code ({ cls := "java/lang/Object", name := "<init>", desc := "()V" } : Jvm.MethodName) object_method_1_code (1 : Nat) (Option.none : Option Jvm.ClassFile.FieldType)).before args0 about1 = true := code_word (m := ⟨0, 0⟩) (meth := k0m0) (c := k0c0) (by decide +kernel) rfl rfl rfl (by decide +kernel)
set_option maxRecDepth 65536 in
theorem w_c14 : (Jvm.Cond.code ({ cls := "com/example/tokenweave/tokenweave/engine/BpmnReader", name := "xmlBoolean", desc := "(Ljava/lang/String;Ljava/lang/String;Ljava/lang/String;)Z" } : Jvm.MethodName) prog_17_method_10_code (4 : Nat) (Option.some Jvm.ClassFile.FieldType.boolean)).before args0 about1 = true := code_word (m := ⟨10, 1⟩) (meth := k10m1) (c := k10c1) (by decide +kernel) rfl rfl rfl (by decide +kernel)
set_option maxRecDepth 65536 in
theorem w_c15 : (Jvm.Cond.code ({ cls := "java/lang/String", name := "strip", desc := "()Ljava/lang/String;" } : Jvm.MethodName) jdk_42_method_114_code (2 : Nat) (Option.some (Jvm.ClassFile.FieldType.object "java/lang/String"))).before args0 about1 = true := code_word (m := ⟨7, 5⟩) (meth := k7m5) (c := k7c5) (by decide +kernel) rfl rfl rfl (by decide +kernel)
set_option maxRecDepth 65536 in
theorem w_c16 : (Jvm.Cond.code ({ cls := "java/lang/StringLatin1", name := "strip", desc := "([B)Ljava/lang/String;" } : Jvm.MethodName) jdk_43_method_39_code (4 : Nat) (Option.some (Jvm.ClassFile.FieldType.object "java/lang/String"))).before args0 about1 = true := code_word (m := ⟨8, 6⟩) (meth := k8m6) (c := k8c6) (by decide +kernel) rfl rfl rfl (by decide +kernel)
set_option maxRecDepth 65536 in
theorem w_c17 : (Jvm.Cond.code ({ cls := "java/lang/StringLatin1", name := "indexOfNonWhitespace", desc := "([B)I" } : Jvm.MethodName) jdk_43_method_37_code (4 : Nat) (Option.some Jvm.ClassFile.FieldType.int)).before args0 about1 = true := code_word (m := ⟨8, 4⟩) (meth := k8m4) (c := k8c4) (by decide +kernel) rfl rfl rfl (by decide +kernel)
set_option maxRecDepth 65536 in
theorem w_c18 : (Jvm.Cond.code ({ cls := "java/lang/StringLatin1", name := "getChar", desc := "([BI)C" } : Jvm.MethodName) jdk_43_method_44_code (2 : Nat) (Option.some Jvm.ClassFile.FieldType.char)).before args0 about1 = true := code_word (m := ⟨8, 7⟩) (meth := k8m7) (c := k8c7) (by decide +kernel) rfl rfl rfl (by decide +kernel)
set_option maxRecDepth 65536 in
theorem w_c19 : (Jvm.Cond.code ({ cls := "java/lang/CharacterDataLatin1", name := "isWhitespace", desc := "(I)Z" } : Jvm.MethodName) jdk_116_method_26_code (3 : Nat) (Option.some Jvm.ClassFile.FieldType.boolean)).before args0 about1 = true := code_word (m := ⟨12, 1⟩) (meth := k12m1) (c := k12c1) (by decide +kernel) rfl rfl rfl (by decide +kernel)
set_option maxRecDepth 65536 in
theorem w_c20 : (Jvm.Cond.code ({ cls := "java/lang/CharacterDataLatin1", name := "getProperties", desc := "(I)I" } : Jvm.MethodName) jdk_116_method_1_code (4 : Nat) (Option.some Jvm.ClassFile.FieldType.int)).before args0 about1 = true := code_word (m := ⟨12, 0⟩) (meth := k12m0) (c := k12c0) (by decide +kernel) rfl rfl rfl (by decide +kernel)
set_option maxRecDepth 65536 in
theorem w_c21 : (Jvm.Cond.code ({ cls := "java/lang/StringLatin1", name := "lastIndexOfNonWhitespace", desc := "([B)I" } : Jvm.MethodName) jdk_43_method_38_code (4 : Nat) (Option.some Jvm.ClassFile.FieldType.int)).before args0 about1 = true := code_word (m := ⟨8, 5⟩) (meth := k8m5) (c := k8c5) (by decide +kernel) rfl rfl rfl (by decide +kernel)
set_option maxRecDepth 65536 in
theorem w_c22 : (Jvm.Cond.code ({ cls := "java/lang/String", name := "equals", desc := "(Ljava/lang/Object;)Z" } : Jvm.MethodName) jdk_42_method_66_code (3 : Nat) (Option.some Jvm.ClassFile.FieldType.boolean)).before args0 about1 = true := code_word (m := ⟨7, 4⟩) (meth := k7m4) (c := k7c4) (by decide +kernel) rfl rfl rfl (by decide +kernel)
set_option maxRecDepth 65536 in
theorem w_c23 : (Jvm.Cond.code ({ cls := "java/lang/String", name := "<init>", desc := "([C)V" } : Jvm.MethodName) jdk_42_method_3_code (2 : Nat) (Option.none : Option Jvm.ClassFile.FieldType)).before args0 about1 = true := code_word (m := ⟨7, 1⟩) (meth := k7m1) (c := k7c1) (by decide +kernel) rfl rfl rfl (by decide +kernel)
set_option maxRecDepth 65536 in
theorem w_c24 : (Jvm.Cond.code ({ cls := "java/lang/String", name := "<init>", desc := "([CIILjava/lang/Void;)V" } : Jvm.MethodName) jdk_42_method_149_code (6 : Nat) (Option.none : Option Jvm.ClassFile.FieldType)).before args0 about1 = true := code_word (m := ⟨7, 7⟩) (meth := k7m7) (c := k7c7) (by decide +kernel) rfl rfl rfl (by decide +kernel)
set_option maxRecDepth 65536 in
theorem w_c25 : (Jvm.Cond.code ({ cls := "java/lang/StringUTF16", name := "compress", desc := "([CII)[B" } : Jvm.MethodName) jdk_52_method_16_code (6 : Nat) (Option.some (Jvm.ClassFile.FieldType.array Jvm.ClassFile.FieldType.byte))).before args0 about1 = true := code_word (m := ⟨13, 2⟩) (meth := k13m2) (c := k13c2) (by decide +kernel) rfl rfl rfl (by decide +kernel)
set_option maxRecDepth 65536 in
theorem w_c26 : (Jvm.Cond.code ({ cls := "java/lang/StringUTF16", name := "compress", desc := "([CI[BII)I" } : Jvm.MethodName) jdk_52_method_21_code (7 : Nat) (Option.some Jvm.ClassFile.FieldType.int)).before args0 about1 = true := code_word (m := ⟨13, 3⟩) (meth := k13m3) (c := k13c3) (by decide +kernel) rfl rfl rfl (by decide +kernel)
set_option maxRecDepth 65536 in
theorem w_c27 : (Jvm.Cond.code ({ cls := "java/lang/StringUTF16", name := "coderFromArrayLen", desc := "([BI)B" } : Jvm.MethodName) jdk_52_method_15_code (2 : Nat) (Option.some Jvm.ClassFile.FieldType.byte)).before args0 about1 = true := code_word (m := ⟨13, 1⟩) (meth := k13m1) (c := k13c1) (by decide +kernel) rfl rfl rfl (by decide +kernel)
set_option maxRecDepth 65536 in
theorem w_c28 : (Jvm.Cond.code ({ cls := "java/lang/StringLatin1", name := "newString", desc := "([BII)Ljava/lang/String;" } : Jvm.MethodName) jdk_43_method_47_code (3 : Nat) (Option.some (Jvm.ClassFile.FieldType.object "java/lang/String"))).before args0 about1 = true := code_word (m := ⟨8, 9⟩) (meth := k8m9) (c := k8c9) (by decide +kernel) rfl rfl rfl (by decide +kernel)
set_option maxRecDepth 65536 in
theorem w_c29 : (Jvm.Cond.code ({ cls := "java/util/Arrays", name := "copyOfRange", desc := "([BII)[B" } : Jvm.MethodName) jdk_65_method_132_code (3 : Nat) (Option.some (Jvm.ClassFile.FieldType.array Jvm.ClassFile.FieldType.byte))).before args0 about1 = true := code_word (m := ⟨14, 2⟩) (meth := k14m2) (c := k14c2) (by decide +kernel) rfl rfl rfl (by decide +kernel)
set_option maxRecDepth 65536 in
theorem w_c30 : (Jvm.Cond.code ({ cls := "java/util/Arrays", name := "copyOfRangeByte", desc := "([BII)[B" } : Jvm.MethodName) jdk_65_method_133_code (5 : Nat) (Option.some (Jvm.ClassFile.FieldType.array Jvm.ClassFile.FieldType.byte))).before args0 about1 = true := code_word (m := ⟨14, 3⟩) (meth := k14m3) (c := k14c3) (by decide +kernel) rfl rfl rfl (by decide +kernel)
set_option maxRecDepth 65536 in
theorem w_c31 : (Jvm.Cond.code ({ cls := "java/util/Arrays", name := "checkLength", desc := "(II)V" } : Jvm.MethodName) jdk_65_method_131_code (2 : Nat) (Option.none : Option Jvm.ClassFile.FieldType)).before args0 about1 = true := code_word (m := ⟨14, 1⟩) (meth := k14m1) (c := k14c1) (by decide +kernel) rfl rfl rfl (by decide +kernel)
set_option maxRecDepth 65536 in
theorem w_c32 : (Jvm.Cond.code ({ cls := "java/lang/Math", name := "min", desc := "(II)I" } : Jvm.MethodName) jdk_29_method_69_code (2 : Nat) (Option.some Jvm.ClassFile.FieldType.int)).before args0 about1 = true := code_word (m := ⟨15, 1⟩) (meth := k15m1) (c := k15c1) (by decide +kernel) rfl rfl rfl (by decide +kernel)
set_option maxRecDepth 65536 in
theorem w_c33 : (Jvm.Cond.code ({ cls := "java/lang/StringLatin1", name := "equals", desc := "([B[B)Z" } : Jvm.MethodName) jdk_43_method_13_code (3 : Nat) (Option.some Jvm.ClassFile.FieldType.boolean)).before args0 about1 = true := code_word (m := ⟨8, 3⟩) (meth := k8m3) (c := k8c3) (by decide +kernel) rfl rfl rfl (by decide +kernel)
def codes1 : List Jvm.Cond := [Jvm.Cond.code x code maxLocals ret, Jvm.Cond.code ({ cls := "java/lang/String", name := "length", desc := "()I" } : Jvm.MethodName) jdk_42_method_54_code (1 : Nat) (Option.some Jvm.ClassFile.FieldType.int), Jvm.Cond.code ({ cls := "java/lang/String", name := "coder", desc := "()B" } : Jvm.MethodName) jdk_42_method_152_code (1 : Nat) (Option.some Jvm.ClassFile.FieldType.byte), Jvm.Cond.code ({ cls := "com/example/tokenweave/tokenweave/engine/BpmnReaderXmlBooleanPinLaw", name := "space", desc := "(JI)C" } : Jvm.MethodName) method_3_code (4 : Nat) (Option.some Jvm.ClassFile.FieldType.char), Jvm.Cond.code ({ cls := "java/lang/String", name := "charAt", desc := "(I)C" } : Jvm.MethodName) jdk_42_method_56_code (2 : Nat) (Option.some Jvm.ClassFile.FieldType.char), Jvm.Cond.code ({ cls := "java/lang/String", name := "isLatin1", desc := "()Z" } : Jvm.MethodName) jdk_42_method_154_code (1 : Nat) (Option.some Jvm.ClassFile.FieldType.boolean), Jvm.Cond.code ({ cls := "java/lang/StringLatin1", name := "charAt", desc := "([BI)C" } : Jvm.MethodName) jdk_43_method_2_code (2 : Nat) (Option.some Jvm.ClassFile.FieldType.char), Jvm.Cond.code ({ cls := "java/lang/String", name := "checkIndex", desc := "(II)V" } : Jvm.MethodName) jdk_42_method_155_code (2 : Nat) (Option.none : Option Jvm.ClassFile.FieldType), Jvm.Cond.code ({ cls := "jdk/internal/util/Preconditions", name := "checkIndex", desc := "(IILjava/util/function/BiFunction;)I" } : Jvm.MethodName) jdk_41_method_11_code (3 : Nat) (Option.some Jvm.ClassFile.FieldType.int), Jvm.Cond.code ({ cls := "java/lang/String", name := "valueOf", desc := "(C)Ljava/lang/String;" } : Jvm.MethodName) jdk_42_method_139_code (1 : Nat) (Option.some (Jvm.ClassFile.FieldType.object "java/lang/String")), Jvm.Cond.code ({ cls := "java/lang/StringLatin1", name := "canEncode", desc := "(C)Z" } : Jvm.MethodName) jdk_43_method_3_code (1 : Nat) (Option.some Jvm.ClassFile.FieldType.boolean), Jvm.Cond.code ({ cls := "java/lang/StringLatin1", name := "toBytes", desc := "(C)[B" } : Jvm.MethodName) jdk_43_method_46_code (1 : Nat) (Option.some (Jvm.ClassFile.FieldType.array Jvm.ClassFile.FieldType.byte)), Jvm.Cond.code ({ cls := "java/lang/String", name := "<init>", desc := "([BB)V" } : Jvm.MethodName) jdk_42_method_151_code (3 : Nat) (Option.none : Option Jvm.ClassFile.FieldType), Jvm.Cond.code ({ cls := "java/lang/Object", name := "<init>", desc := "()V" } : Jvm.MethodName) object_method_1_code (1 : Nat) (Option.none : Option Jvm.ClassFile.FieldType), Jvm.Cond.code ({ cls := "com/example/tokenweave/tokenweave/engine/BpmnReader", name := "xmlBoolean", desc := "(Ljava/lang/String;Ljava/lang/String;Ljava/lang/String;)Z" } : Jvm.MethodName) prog_17_method_10_code (4 : Nat) (Option.some Jvm.ClassFile.FieldType.boolean), Jvm.Cond.code ({ cls := "java/lang/String", name := "strip", desc := "()Ljava/lang/String;" } : Jvm.MethodName) jdk_42_method_114_code (2 : Nat) (Option.some (Jvm.ClassFile.FieldType.object "java/lang/String")), Jvm.Cond.code ({ cls := "java/lang/StringLatin1", name := "strip", desc := "([B)Ljava/lang/String;" } : Jvm.MethodName) jdk_43_method_39_code (4 : Nat) (Option.some (Jvm.ClassFile.FieldType.object "java/lang/String")), Jvm.Cond.code ({ cls := "java/lang/StringLatin1", name := "indexOfNonWhitespace", desc := "([B)I" } : Jvm.MethodName) jdk_43_method_37_code (4 : Nat) (Option.some Jvm.ClassFile.FieldType.int), Jvm.Cond.code ({ cls := "java/lang/StringLatin1", name := "getChar", desc := "([BI)C" } : Jvm.MethodName) jdk_43_method_44_code (2 : Nat) (Option.some Jvm.ClassFile.FieldType.char), Jvm.Cond.code ({ cls := "java/lang/CharacterDataLatin1", name := "isWhitespace", desc := "(I)Z" } : Jvm.MethodName) jdk_116_method_26_code (3 : Nat) (Option.some Jvm.ClassFile.FieldType.boolean), Jvm.Cond.code ({ cls := "java/lang/CharacterDataLatin1", name := "getProperties", desc := "(I)I" } : Jvm.MethodName) jdk_116_method_1_code (4 : Nat) (Option.some Jvm.ClassFile.FieldType.int), Jvm.Cond.code ({ cls := "java/lang/StringLatin1", name := "lastIndexOfNonWhitespace", desc := "([B)I" } : Jvm.MethodName) jdk_43_method_38_code (4 : Nat) (Option.some Jvm.ClassFile.FieldType.int), Jvm.Cond.code ({ cls := "java/lang/String", name := "equals", desc := "(Ljava/lang/Object;)Z" } : Jvm.MethodName) jdk_42_method_66_code (3 : Nat) (Option.some Jvm.ClassFile.FieldType.boolean), Jvm.Cond.code ({ cls := "java/lang/String", name := "<init>", desc := "([C)V" } : Jvm.MethodName) jdk_42_method_3_code (2 : Nat) (Option.none : Option Jvm.ClassFile.FieldType), Jvm.Cond.code ({ cls := "java/lang/String", name := "<init>", desc := "([CIILjava/lang/Void;)V" } : Jvm.MethodName) jdk_42_method_149_code (6 : Nat) (Option.none : Option Jvm.ClassFile.FieldType), Jvm.Cond.code ({ cls := "java/lang/StringUTF16", name := "compress", desc := "([CII)[B" } : Jvm.MethodName) jdk_52_method_16_code (6 : Nat) (Option.some (Jvm.ClassFile.FieldType.array Jvm.ClassFile.FieldType.byte)), Jvm.Cond.code ({ cls := "java/lang/StringUTF16", name := "compress", desc := "([CI[BII)I" } : Jvm.MethodName) jdk_52_method_21_code (7 : Nat) (Option.some Jvm.ClassFile.FieldType.int), Jvm.Cond.code ({ cls := "java/lang/StringUTF16", name := "coderFromArrayLen", desc := "([BI)B" } : Jvm.MethodName) jdk_52_method_15_code (2 : Nat) (Option.some Jvm.ClassFile.FieldType.byte), Jvm.Cond.code ({ cls := "java/lang/StringLatin1", name := "newString", desc := "([BII)Ljava/lang/String;" } : Jvm.MethodName) jdk_43_method_47_code (3 : Nat) (Option.some (Jvm.ClassFile.FieldType.object "java/lang/String")), Jvm.Cond.code ({ cls := "java/util/Arrays", name := "copyOfRange", desc := "([BII)[B" } : Jvm.MethodName) jdk_65_method_132_code (3 : Nat) (Option.some (Jvm.ClassFile.FieldType.array Jvm.ClassFile.FieldType.byte)), Jvm.Cond.code ({ cls := "java/util/Arrays", name := "copyOfRangeByte", desc := "([BII)[B" } : Jvm.MethodName) jdk_65_method_133_code (5 : Nat) (Option.some (Jvm.ClassFile.FieldType.array Jvm.ClassFile.FieldType.byte)), Jvm.Cond.code ({ cls := "java/util/Arrays", name := "checkLength", desc := "(II)V" } : Jvm.MethodName) jdk_65_method_131_code (2 : Nat) (Option.none : Option Jvm.ClassFile.FieldType), Jvm.Cond.code ({ cls := "java/lang/Math", name := "min", desc := "(II)I" } : Jvm.MethodName) jdk_29_method_69_code (2 : Nat) (Option.some Jvm.ClassFile.FieldType.int), Jvm.Cond.code ({ cls := "java/lang/StringLatin1", name := "equals", desc := "([B[B)Z" } : Jvm.MethodName) jdk_43_method_13_code (3 : Nat) (Option.some Jvm.ClassFile.FieldType.boolean)]
set_option maxRecDepth 65536 in
theorem codes_eq : words1.filter isCode = codes1 := rfl
theorem w_codes : ∀ c ∈ words1.filter isCode, c.before args0 about1 = true := by
  rw [codes_eq]
  intro c hc
  simp only [codes1, List.mem_cons, List.not_mem_nil, or_false] at hc
  rcases hc with rfl | rfl | rfl | rfl | rfl | rfl | rfl | rfl | rfl | rfl | rfl | rfl | rfl | rfl | rfl | rfl | rfl | rfl | rfl | rfl | rfl | rfl | rfl | rfl | rfl | rfl | rfl | rfl | rfl | rfl | rfl | rfl | rfl | rfl
  · exact w_c0
  · exact w_c1
  · exact w_c2
  · exact w_c3
  · exact w_c4
  · exact w_c5
  · exact w_c6
  · exact w_c7
  · exact w_c8
  · exact w_c9
  · exact w_c10
  · exact w_c11
  · exact w_c12
  · exact w_c13
  · exact w_c14
  · exact w_c15
  · exact w_c16
  · exact w_c17
  · exact w_c18
  · exact w_c19
  · exact w_c20
  · exact w_c21
  · exact w_c22
  · exact w_c23
  · exact w_c24
  · exact w_c25
  · exact w_c26
  · exact w_c27
  · exact w_c28
  · exact w_c29
  · exact w_c30
  · exact w_c31
  · exact w_c32
  · exact w_c33
set_option maxRecDepth 65536 in
theorem w_t1 : (words1.take 24).all (fun c => isCode c || c.before args0 about1) = true := by decide +kernel
set_option maxRecDepth 65536 in
theorem w_t2 : ((words1.drop 24).take 24).all (fun c => isCode c || c.before args0 about1) = true := by decide +kernel
set_option maxRecDepth 65536 in
theorem w_t3 : (((words1.drop 24).drop 24).take 24).all (fun c => isCode c || c.before args0 about1) = true := by decide +kernel
set_option maxRecDepth 65536 in
theorem w_t4 : ((((words1.drop 24).drop 24).drop 24).take 24).all (fun c => isCode c || c.before args0 about1) = true := by decide +kernel
set_option maxRecDepth 65536 in
theorem w_t5 : (((((words1.drop 24).drop 24).drop 24).drop 24).take 24).all (fun c => isCode c || c.before args0 about1) = true := by decide +kernel
set_option maxRecDepth 65536 in
theorem w_t6 : ((((((words1.drop 24).drop 24).drop 24).drop 24).drop 24).take 24).all (fun c => isCode c || c.before args0 about1) = true := by decide +kernel
set_option maxRecDepth 65536 in
theorem w_t7 : ((((((words1.drop 24).drop 24).drop 24).drop 24).drop 24).drop 24).all (fun c => isCode c || c.before args0 about1) = true := by decide +kernel
theorem w_tables : (allAtoms (Jvm.Cond.code x code maxLocals ret :: tables_1)).before args0 about1 = true := by
  rw [allAtoms_all]
  show words1.all (fun c => c.before args0 about1) = true
  refine all_split ?_ w_codes
  rw [← List.take_append_drop 24 words1, List.all_append, w_t1, ← List.take_append_drop 24 (words1.drop 24), List.all_append, w_t2, ← List.take_append_drop 24 ((words1.drop 24).drop 24), List.all_append, w_t3, ← List.take_append_drop 24 (((words1.drop 24).drop 24).drop 24), List.all_append, w_t4, ← List.take_append_drop 24 ((((words1.drop 24).drop 24).drop 24).drop 24), List.all_append, w_t5, ← List.take_append_drop 24 (((((words1.drop 24).drop 24).drop 24).drop 24).drop 24), List.all_append, w_t6, w_t7]
  rfl
set_option maxRecDepth 65536 in
theorem w_rest : rest_1_c.before args0 about1 = true := by decide +kernel
set_option maxRecDepth 65536 in
theorem w_case : (Jvm.Cond.and given_1 narrow_1).before args0 about1 = true := by decide +kernel
set_option maxRecDepth 65536 in
theorem w_consts : constsHeld consts_1 about1 := Jvm.Lit.constsHeldB_iff.mp (by decide +kernel)
theorem w_applies : (headSpec (Jvm.Cond.code x code maxLocals ret :: tables_1) room_1).applies x e0.platform about1 = true :=
  (Spec.applies_iff w_frames).mpr ⟨w_running, w_runnable, w_alone, w_named, w_hears, w_ripe, w_room, w_tables⟩
theorem atStart : AtStart classFile x code maxLocals ret World_1 tables_1 room_1 Calls_1 rest_1 Pre_1 launch0 p0 e0 about1 theMethod args0 below0 :=
  ⟨lists_1, trivial, launch0.admits_env _ _ _, launch0.least_env, fairChoices_fair.cas, fairChoices_fair.clock, w_frames, w_args, w_heap, w_applies, ⟨w_consts, trivial⟩, w_rest, w_case⟩
end start1
theorem witness_1 : WitnessClaimed_1 := ⟨start1.p0, start1.e0, start1.about1, start1.theMethod, start1.args0, start1.below0, start1.atStart⟩
end Jvm.Pilot.@@N@@
