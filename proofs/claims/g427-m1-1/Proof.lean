import JvmDerived
import JvmDerived.Pilot.@@N@@Statement
import JvmDerived.Pilot.@@N@@Code
set_option linter.unusedVariables false
set_option linter.unusedSimpArgs false
namespace Jvm.RoadKit
open Sem ClassFile Op Lib Jvm.Stand Jvm.Free Jvm.LawKit
section OwnGo
variable {p : Program} {l : Launch} {e : Env} {R : Room} {s : State} {m : MethodId} {args : Array Value} {below : List Frame} {meth : Method} {c : Code} {T T' : State} {locs : List Loc} {cells slots : Nat} {tb : Tables} {P : State → Outcome → Prop} {g g' : JFrame} {Z : State} {a0 : Array Value} {h h' : Heap}
/-- from here the run goes on to an end that P says -/
def Go (tb : Tables) (e : Env) (below : List Frame) (P : State → Outcome → Prop) (T : State) (g : JFrame) : Prop :=
  ∃ u o, Steps tb e below (T.setTop g) u ∧ u.status = .running ∧ Ended u below o ∧ P u o
theorem Go.st (st : ∀ target, Steps tb e below (T'.setTop g') target → Steps tb e below (T.setTop g) target) (k : Go tb e below P T' g') : Go tb e below P T g := by
  obtain ⟨u, o, h1, h2⟩ := k
  exact ⟨u, o, st u h1, h2⟩
theorem Go.tr (st : Steps tb e below (T.setTop g) (T'.setTop g')) (k : Go tb e below P T' g') : Go tb e below P T g := Go.st (fun _ h => st.trans h) k
theorem Go.cast (q : g = g') (k : Go tb e below P T g') : Go tb e below P T g := q ▸ k
/-- the end of a body that interns nothing -/
def FinP (s : State) (Q : Option Value → Heap → List Loc → Prop) (K N : Nat) (u : State) (o : Outcome) : Prop := ∃ v L, o = .returned v ∧ Q v u.heap L ∧ FrameEnd s o u L K N
theorem Go.retN {Q : Option Value → Heap → List Loc → Prop} {K N : Nat} (X : Stand p l e R s m args below meth c T locs cells slots) (hx : p.tables.exec = Jvm.exec) (hlk : meth.locks = false) {pc : Nat} {Ls : Array Slot} {z : Int32} {t : FieldType} {rest : List Value} (hret : meth.sig.returnType = some t)
    (hn : narrow t (.int z) = .int z) (ht : t = .int ∨ t = .boolean ∨ t = .byte ∨ t = .char ∨ t = .short) (hd : decode c.code pc = .ok (.ireturn, 1)) (hK : cells ≤ K) (hN : slots ≤ N) (eT : T.heap = h) (hQ : Q (some (.int z)) h locs) : Go p.tables e below (FinP s Q K N) T (mkF m pc Ls (.int z :: rest)) := by
  obtain ⟨fs, hr, hrun, hended, hW, hsame⟩ := X.leave (v := some (.int z)) (fun h => by rw [hret] at h; cases h) hlk
  exact ⟨_, _, retOut X hx hret hn (Or.inl ⟨rfl, ht, z, rfl⟩) hd hr, hrun, hended, _, _, rfl, (by rw [show (T.setFrames fs).heap = h from eT]; exact hQ), ⟨_, rfl⟩, hW, hsame.mono hK hN⟩
theorem Go.retL {Q : Option Value → Heap → List Loc → Prop} {K N : Nat} (X : Stand p l e R s m args below meth c T locs cells slots) (hx : p.tables.exec = Jvm.exec) (hlk : meth.locks = false) {pc : Nat} {Ls : Array Slot} {z : Int64} {rest : List Value} (hret : meth.sig.returnType = some .long)
    (hd : decode c.code pc = .ok (.lreturn, 1)) (hK : cells ≤ K) (hN : slots ≤ N) (eT : T.heap = h) (hQ : Q (some (.long z)) h locs) : Go p.tables e below (FinP s Q K N) T (mkF m pc Ls (.long z :: rest)) := by
  obtain ⟨fs, hr, hrun, hended, hW, hsame⟩ := X.leave (v := some (.long z)) (fun h => by rw [hret] at h; cases h) hlk
  exact ⟨_, _, retOut X hx hret rfl (Or.inr (Or.inl ⟨rfl, rfl, z, rfl⟩)) hd hr, hrun, hended, _, _, rfl, (by rw [show (T.setFrames fs).heap = h from eT]; exact hQ), ⟨_, rfl⟩, hW, hsame.mono hK hN⟩
theorem narrow_ref {t : FieldType} {w : Value} (ht : t.isReference = true) : narrow t w = w := by cases t <;> first | rfl | (cases w <;> rfl) | (simp [FieldType.isReference] at ht)
theorem Go.retA {Q : Option Value → Heap → List Loc → Prop} {K N : Nat} (X : Stand p l e R s m args below meth c T locs cells slots) (hx : p.tables.exec = Jvm.exec) (hlk : meth.locks = false) {pc : Nat} {Ls : Array Slot} {w : Value} {t : FieldType} {rest : List Value} (hret : meth.sig.returnType = some t)
    (ht : t.isReference = true) (hw : w.isRef = true) (hd : decode c.code pc = .ok (.areturn, 1)) (hK : cells ≤ K) (hN : slots ≤ N) (eT : T.heap = h) (hQ : Q (some w) h locs) : Go p.tables e below (FinP s Q K N) T (mkF m pc Ls (w :: rest)) := by
  obtain ⟨fs, hr, hrun, hended, hW, hsame⟩ := X.leave (v := some w) (fun h => by rw [hret] at h; cases h) hlk
  exact ⟨_, _, retOut X hx hret (narrow_ref ht) (Or.inr (Or.inr (Or.inr (Or.inr ⟨rfl, ht, hw⟩)))) hd hr, hrun, hended, _, _, rfl, (by rw [show (T.setFrames fs).heap = h from eT]; exact hQ), ⟨_, rfl⟩, hW, hsame.mono hK hN⟩
theorem Go.retV {Q : Option Value → Heap → List Loc → Prop} {K N : Nat} (X : Stand p l e R s m args below meth c T locs cells slots) (hx : p.tables.exec = Jvm.exec) (hlk : meth.locks = false) {pc : Nat} {Ls : Array Slot} (hret : meth.sig.returnType = none)
    (hd : decode c.code pc = .ok (.return_, 1)) (hK : cells ≤ K) (hN : slots ≤ N) (eT : T.heap = h) (hQ : Q none h locs) : Go p.tables e below (FinP s Q K N) T (mkF m pc Ls []) := by
  obtain ⟨fs, hr, hrun, hended, hW, hsame⟩ := X.leave (v := none) (fun _ => rfl) hlk
  exact ⟨_, _, X.returnOut hx hret hd hr, hrun, hended, _, _, rfl, (by rw [show (T.setFrames fs).heap = h from eT]; exact hQ), ⟨_, rfl⟩, hW, hsame.mono hK hN⟩
/-- a body's contract: called with as' at the heap h0 it returns as Q says -/
def Con (l : Launch) (Z : State) (y : MethodName) (bytes : ByteArray) (maxL : Nat) (ret : Option FieldType) (ws : List Cond) (rm : Room) (as' : Array Value) (h0 : Heap) (Q : Option Value → Heap → List Loc → Prop) : Prop :=
  MetFree l y (head1 (Cond.code y bytes maxL ret :: ws) rm) (fun a U => a = as' ∧ Z.Warmed39 U.vm ∧ U.heap = h0) (fun _ _ _ _ _ => True) (fun _ U o U' => ∃ v L, o = .returned v ∧ Q v U'.heap L ∧ FrameEnd U o U' L rm.cells rm.slots)
theorem Con.enter {y : MethodName} {bytes : ByteArray} {maxL : Nat} {ret : Option FieldType} {ws : List Cond} {rm : Room} {as' : Array Value} {h0 : Heap} {Q : Option Value → Heap → List Loc → Prop} (hp : plainFor y = true)
    (H : ∀ (p : Program) (e : Env) (s : State) (m : MethodId) (below : List Frame) (meth : Method) (c : Code) (s₁ : State), Stand p l e rm s m as' below meth c s₁ [] 0 0 → p.tables.exec = Jvm.exec → Z.Warmed39 s.vm → c.code = bytes → c.maxLocals = maxL → meth.sig.returnType = ret → meth.locks = false → s.vm.findClass y.cls = some m.cls → meth.name = y.name → s₁.heap = h0 →
      Go p.tables e below (FinP s Q rm.cells rm.slots) s₁ (entryFrame m as' maxL)) : Con l Z y bytes maxL ret ws rm as' h0 Q := by
  refine MetFree.of_bodySF hp hisR ?_
  intro p e s m args below meth c s₁ Bd hml0 hP hK
  obtain ⟨rfl, hZ, hh⟩ := hP
  exact H p e s m below meth c s₁ (Stand.of_body Bd) Bd.exec hZ Bd.bytes hml0 Bd.returns Bd.notSynchronized (findClass_of_methodNamed Bd.named) (name_of_methodNamed Bd.named Bd.method).1 (by rw [← hh, Bd.state]; rfl)
theorem Con.mono {y : MethodName} {bytes : ByteArray} {maxL : Nat} {ret : Option FieldType} {ws : List Cond} {rm : Room} {as' : Array Value} {h0 : Heap} {Q Q' : Option Value → Heap → List Loc → Prop} (C : Con l Z y bytes maxL ret ws rm as' h0 Q) (H : ∀ v h L, Q v h L → Q' v h L) : Con l Z y bytes maxL ret ws rm as' h0 Q' := by
  intro p e ha hc hk s m args below hf happ hP hK
  obtain ⟨n, o, h1, h2, h3, v, L, rfl, hq, hr⟩ := C p e ha hc hk s m args below hf happ hP hK
  exact ⟨n, _, h1, h2, h3, v, L, rfl, H _ _ _ hq, hr⟩
variable {y z : MethodName} {bytes : ByteArray} {maxL : Nat} {ret : Option FieldType} {rm : Room} {as' : Array Value} {Q : Option Value → Heap → List Loc → Prop} {W len : Nat} {own C owner : String} {index : Nat} {argsL rest : List Value}
/-- behind a call -/
theorem Go.back {vs : Array Value} {vm1 : Vm → Pt} {n : Nat} (H : ∃ (v : Option Value) (vm₁ : Vm) (B : Pt), s.WarmedH vm₁ ∧ Stand p l e R s m args below meth c B.U B.locs B.cells B.slots ∧ (∃ L, Q v B.U.heap L ∧ B.locs = locs ++ L ∧ B.cells = cells + rm.cells ∧ B.slots = slots + rm.slots) ∧
      Steps p.tables e below (T.setTop g) (B.U.setTop { g with pc := g.pc + n, stack := v.toList ++ rest }))
    (k : ∀ (v : Option Value) (T' : State) (h' : Heap) (L : List Loc), Stand p l e R s m args below meth c T' (locs ++ L) (cells + rm.cells) (slots + rm.slots) → T'.heap = h' → Q v h' L → Go p.tables e below P T' { g with pc := g.pc + n, stack := v.toList ++ rest }) : Go p.tables e below P T g := by
  obtain ⟨v, _, ⟨U, L1, k1, n1⟩, -, X', ⟨L, hQ, e1, e2, e3⟩, st⟩ := H
  have e1' : L1 = locs ++ L := e1
  have e2' : k1 = cells + rm.cells := e2
  have e3' : n1 = slots + rm.slots := e3
  subst e1' e2' e3'
  exact Go.tr st (k v U _ L X' rfl hQ)
theorem Go.callSt (X : Stand p l e R s m args below meth c T locs cells slots) (hx : p.tables.exec = Jvm.exec) (hZ : Z.Warmed39 s.vm) (hown : s.vm.findClass own = some m.cls) (eT : T.heap = h)
    (w1 : (Cond.methodLink own index y).before a0 Z = true) (w2 : (Cond.static y).before a0 Z = true) (w3 : (Cond.initialized y.cls).before a0 Z = true) (w4 : (Cond.code y bytes maxL ret).before a0 Z = true) (hy : y.cls ≠ "java/lang/invoke/MethodHandle" ∧ y.cls ≠ "java/lang/invoke/VarHandle")
    (hM : Con l Z y bytes maxL ret [] rm as' h Q) (ha : argsL.toArray = as') (hlen : ∀ sig, parseMethodDescriptor y.desc = some sig → argsL.length = sig.parameters.length) (hg : g.method = m) (hsize : g.locals.size = c.maxLocals) (hst : g.stack = argsL.reverse ++ rest)
    (hW : 2 * g.monitorRoom + (rest.map fun v => v.category).sum ≤ W) (hf : rm.frames + 1 ≤ R.frames) (hl : W + (maxL + 11) + rm.locals ≤ R.locals) (hc : cells + rm.cells ≤ R.cells) (hs : slots + rm.slots ≤ R.slots) (hd : decode c.code g.pc = .ok (.invokestatic index, 3))
    (k : ∀ (v : Option Value) (T' : State) (h' : Heap) (L : List Loc), Stand p l e R s m args below meth c T' (locs ++ L) (cells + rm.cells) (slots + rm.slots) → T'.heap = h' → Q v h' L → Go p.tables e below P T' { g with pc := g.pc + 3, stack := v.toList ++ rest }) : Go p.tables e below P T g := by
  obtain ⟨v, vm₁, B, q1, q2, q3, q4⟩ := Jvm.LawKit.callS X hx (y := y) (bytes := bytes) (maxL := maxL) (ret := ret) hown (mvT hZ w1) (mvT hZ w2) (mvT hZ w3) (mvT hZ w4) hy (backOf (W := W) (a0 := a0) hM hZ w4 w3 hf hl) (g := g) hg hsize (argsL := argsL) (rest := rest) hlen hst hW hd (fun _ _ => ⟨ha, eT, hc, hs⟩)
  exact Go.back (vs := as') (vm1 := fun _ => ⟨T, [], 0, 0⟩) ⟨v, vm₁, B, q1, q2, q3, q4 _ (Steps.refl _)⟩ k
theorem Go.callSp (X : Stand p l e R s m args below meth c T locs cells slots) (hx : p.tables.exec = Jvm.exec) (hZ : Z.Warmed39 s.vm) (hown : s.vm.findClass own = some m.cls) (eT : T.heap = h) (hy1 : y.name = "<init>")
    (w1 : (Cond.methodLink own index y).before a0 Z = true) (w2 : (Cond.instanceMethod y).before a0 Z = true) (w3 : (Cond.initialized y.cls).before a0 Z = true) (w4 : (Cond.code y bytes maxL none).before a0 Z = true) (hy : y.cls ≠ "java/lang/invoke/MethodHandle" ∧ y.cls ≠ "java/lang/invoke/VarHandle")
    {a : Addr} (hM : Con l Z y bytes maxL none [] rm as' h Q) (ha : (Value.ref a :: argsL).toArray = as') (hlen : ∀ sig, parseMethodDescriptor y.desc = some sig → argsL.length = sig.parameters.length) (hg : g.method = m) (hsize : g.locals.size = c.maxLocals) (hst : g.stack = argsL.reverse ++ .ref a :: rest)
    (hW : 2 * g.monitorRoom + (rest.map fun v => v.category).sum ≤ W) (hf : rm.frames + 1 ≤ R.frames) (hl : W + (maxL + 11) + rm.locals ≤ R.locals) (hc : cells + rm.cells ≤ R.cells) (hs : slots + rm.slots ≤ R.slots) (hd : decode c.code g.pc = .ok (.invokespecial index, 3))
    (k : ∀ (v : Option Value) (T' : State) (h' : Heap) (L : List Loc), Stand p l e R s m args below meth c T' (locs ++ L) (cells + rm.cells) (slots + rm.slots) → T'.heap = h' → Q v h' L → Go p.tables e below P T' { g with pc := g.pc + 3, stack := v.toList ++ rest }) : Go p.tables e below P T g := by
  exact Go.back (vs := as') (vm1 := fun _ => ⟨T, [], 0, 0⟩) (X.specialBack hx (y := y) hy1 hown (mvT hZ w1) (mvT hZ w2) (mvT hZ w4) hy (backOf (W := W) (a0 := a0) hM hZ w4 w3 hf hl) (g := g) hg hsize (Steps.refl _) (a := a) (argsL := argsL) (rest := rest) hlen hst hW hd (fun _ _ => ⟨ha, eT, hc, hs⟩)) k
theorem Go.callV (X : Stand p l e R s m args below meth c T locs cells slots) (hx : p.tables.exec = Jvm.exec) (hZ : Z.Warmed39 s.vm) (hown : s.vm.findClass own = some m.cls) (eT : T.heap = h)
    (w1 : (Cond.methodLink own index y).before a0 Z = true) (w2 : (Cond.declares y).before a0 Z = true) (w5 : (Cond.selects C y z).before a0 Z = true) (w6 : (Cond.instanceMethod z).before a0 Z = true) (w3 : (Cond.initialized z.cls).before a0 Z = true) (w4 : (Cond.code z bytes maxL ret).before a0 Z = true)
    (hnf : NotFace s y) (hy : y.cls ≠ "java/lang/invoke/MethodHandle" ∧ y.cls ≠ "java/lang/invoke/VarHandle")
    {a : Addr} (E : Exa Z h a C) (hM : Con l Z z bytes maxL ret [] rm as' h Q) (ha : (Value.ref a :: argsL).toArray = as') (hlen : ∀ sig, parseMethodDescriptor y.desc = some sig → argsL.length = sig.parameters.length) (hg : g.method = m) (hsize : g.locals.size = c.maxLocals) (hst : g.stack = argsL.reverse ++ .ref a :: rest)
    (hW : 2 * g.monitorRoom + (rest.map fun v => v.category).sum ≤ W) (hf : rm.frames + 1 ≤ R.frames) (hl : W + (maxL + 11) + rm.locals ≤ R.locals) (hc : cells + rm.cells ≤ R.cells) (hs : slots + rm.slots ≤ R.slots) (hd : decode c.code g.pc = .ok (.invokevirtual index, 3))
    (k : ∀ (v : Option Value) (T' : State) (h' : Heap) (L : List Loc), Stand p l e R s m args below meth c T' (locs ++ L) (cells + rm.cells) (slots + rm.slots) → T'.heap = h' → Q v h' L → Go p.tables e below P T' { g with pc := g.pc + 3, stack := v.toList ++ rest }) : Go p.tables e below P T g := by
  obtain ⟨cq, kq, qa, qb, qc⟩ := isOf hZ eT E
  exact Go.back (vs := as') (vm1 := fun _ => ⟨T, [], 0, 0⟩) (X.virtualBack hx (y := y) (z := z) hown (mvT hZ w1) (mvT hZ w2) hnf (mvT hZ w5) (mvT hZ w6) hy (backOf (W := W) (a0 := a0) hM hZ w4 w3 hf hl) qa qc (g := g) hg hsize (Steps.refl _) (argsL := argsL) (rest := rest) hlen hst hW hd (fun _ _ => ⟨ha, eT, hc, hs⟩)) k
theorem Go.callUp (X : Stand p l e R s m args below meth c T locs cells slots) (hx : p.tables.exec = Jvm.exec) (hZ : Z.Warmed39 s.vm) (hown : s.vm.findClass own = some m.cls) (eT : T.heap = h)
    (w1 : (Cond.methodLink own index y).before a0 Z = true) (w2 : (Cond.sameMethod y.cls owner y.name y.desc).before a0 Z = true) (w7 : (Cond.declares ⟨owner, y.name, y.desc⟩).before a0 Z = true) (hy : owner ≠ "java/lang/invoke/MethodHandle" ∧ owner ≠ "java/lang/invoke/VarHandle")
    (w5 : (Cond.selects C y z).before a0 Z = true) (w6 : (Cond.instanceMethod z).before a0 Z = true) (w3 : (Cond.initialized z.cls).before a0 Z = true) (w4 : (Cond.code z bytes maxL ret).before a0 Z = true)
    {a : Addr} (E : Exa Z h a C) (hM : Con l Z z bytes maxL ret [] rm as' h Q) (ha : (Value.ref a :: argsL).toArray = as') (hlen : ∀ sig, parseMethodDescriptor y.desc = some sig → argsL.length = sig.parameters.length) (hg : g.method = m) (hsize : g.locals.size = c.maxLocals) (hst : g.stack = argsL.reverse ++ .ref a :: rest)
    (hW : 2 * g.monitorRoom + (rest.map fun v => v.category).sum ≤ W) (hf : rm.frames + 1 ≤ R.frames) (hl : W + (maxL + 11) + rm.locals ≤ R.locals) (hc : cells + rm.cells ≤ R.cells) (hs : slots + rm.slots ≤ R.slots) (hd : decode c.code g.pc = .ok (.invokevirtual index, 3))
    (k : ∀ (v : Option Value) (T' : State) (h' : Heap) (L : List Loc), Stand p l e R s m args below meth c T' (locs ++ L) (cells + rm.cells) (slots + rm.slots) → T'.heap = h' → Q v h' L → Go p.tables e below P T' { g with pc := g.pc + 3, stack := v.toList ++ rest }) : Go p.tables e below P T g := by
  obtain ⟨cq, kq, qa, qb, qc⟩ := isOf hZ eT E
  exact Go.back (vs := as') (vm1 := fun _ => ⟨T, [], 0, 0⟩) (X.virtualBackUp hx (x := y) (y := z) hown (mvT hZ w1) (mvT hZ w2) (mvT hZ w7) hy (mvT hZ w5) (mvT hZ w6) (backOf (W := W) (a0 := a0) hM hZ w4 w3 hf hl) qa qc (g := g) hg hsize (Steps.refl _) (argsL := argsL) (rest := rest) hlen hst hW hd (fun _ _ => ⟨ha, eT, hc, hs⟩)) k
theorem ldCV (X : Stand p l e R s m args below meth c T locs cells slots) (hx : p.tables.exec = Jvm.exec) (hZ : Z.Warmed39 s.vm) (eT : T.heap = h) {a : Addr} {k : ClassId} {z : Int32} {vs : List Value} {d : Value} (F : Arv Z h a k .char z vs d) {j : Int32} (hj : ¬ j < 0 ∧ j < z) {v : Value} (hv : vs.getD j.toNatClampNeg d = v) {g : JFrame} (hg : g.method = m) {rest : List Value} (hs : g.stack = .int j :: .ref a :: rest) (hd : decode c.code g.pc = .ok (.caload, 1)) {target : State}
    (kk : Steps p.tables e below (T.setTop { g with pc := g.pc + 1, stack := v :: rest }) target) : Steps p.tables e below (T.setTop g) target := by
  obtain ⟨cl, A, q1, S, q3, H, G⟩ := F
  exact X.caload hx (j := j) (v := v) (by rw [eT]; exact A.1) (State.isArrayOf_alike hZ.alike A.2.1) A.2.2 (inb_of S hj) (H.at (inb_of S hj) hv) hg hs hd _ kk
theorem ldBV (X : Stand p l e R s m args below meth c T locs cells slots) (hx : p.tables.exec = Jvm.exec) (hZ : Z.Warmed39 s.vm) (eT : T.heap = h) {a : Addr} {k : ClassId} {z : Int32} {vs : List Value} {d : Value} (F : Arv Z h a k .byte z vs d) {j : Int32} (hj : ¬ j < 0 ∧ j < z) {v : Value} (hv : vs.getD j.toNatClampNeg d = v) {g : JFrame} (hg : g.method = m) {rest : List Value} (hs : g.stack = .int j :: .ref a :: rest) (hd : decode c.code g.pc = .ok (.baload, 1)) {target : State}
    (kk : Steps p.tables e below (T.setTop { g with pc := g.pc + 1, stack := v :: rest }) target) : Steps p.tables e below (T.setTop g) target := by
  obtain ⟨cl, A, q1, S, q3, H, G⟩ := F
  exact X.baloadBytes hx (j := j) (v := v) (by rw [eT]; exact A.1) (State.isArrayOf_alike hZ.alike A.2.1) A.2.2 (inb_of S hj) (H.at (inb_of S hj) hv) hg hs hd _ kk
theorem ldIV (X : Stand p l e R s m args below meth c T locs cells slots) (hx : p.tables.exec = Jvm.exec) (hZ : Z.Warmed39 s.vm) (eT : T.heap = h) {a : Addr} {k : ClassId} {z : Int32} {vs : List Value} {d : Value} (F : Arv Z h a k .int z vs d) {j : Int32} (hj : ¬ j < 0 ∧ j < z) {v : Value} (hv : vs.getD j.toNatClampNeg d = v) {g : JFrame} (hg : g.method = m) {rest : List Value} (hs : g.stack = .int j :: .ref a :: rest) (hd : decode c.code g.pc = .ok (.iaload, 1)) {target : State}
    (kk : Steps p.tables e below (T.setTop { g with pc := g.pc + 1, stack := v :: rest }) target) : Steps p.tables e below (T.setTop g) target := by
  obtain ⟨cl, A, q1, S, q3, H, G⟩ := F
  exact X.iaload hx (j := j) (v := v) (by rw [eT]; exact A.1) (State.isArrayOf_alike hZ.alike A.2.1) A.2.2 (inb_of S hj) (H.at (inb_of S hj) hv) hg hs hd _ kk
theorem ldRV (X : Stand p l e R s m args below meth c T locs cells slots) (hx : p.tables.exec = Jvm.exec) (hZ : Z.Warmed39 s.vm) (eT : T.heap = h) {a : Addr} {k : ClassId} {C : String} {z : Int32} {vs : List Value} {d : Value} (F : Arv Z h a k (.object C) z vs d) {j : Int32} (hj : ¬ j < 0 ∧ j < z) {v : Value} (hv : vs.getD j.toNatClampNeg d = v) {g : JFrame} (hg : g.method = m) {rest : List Value} (hs : g.stack = .int j :: .ref a :: rest) (hd : decode c.code g.pc = .ok (.aaload, 1)) {target : State}
    (kk : Steps p.tables e below (T.setTop { g with pc := g.pc + 1, stack := v :: rest }) target) : Steps p.tables e below (T.setTop g) target := by
  obtain ⟨cl, A, q1, S, q3, H, G⟩ := F
  exact X.aaload hx (j := j) (v := v) (by rw [eT]; exact A.1) (State.isArrayOf_alike hZ.alike A.2.1) rfl A.2.2 (inb_of S hj) (H.at (inb_of S hj) hv) hg hs hd _ kk
theorem lenV (X : Stand p l e R s m args below meth c T locs cells slots) (hx : p.tables.exec = Jvm.exec) (hZ : Z.Warmed39 s.vm) (eT : T.heap = h) {a : Addr} {k : ClassId} {ty : FieldType} {z : Int32} {vs : List Value} {d : Value} (F : Arv Z h a k ty z vs d) {g : JFrame} (hg : g.method = m) {rest : List Value} (hs : g.stack = .ref a :: rest) (hd : decode c.code g.pc = .ok (.arraylength, 1)) {target : State}
    (kk : Steps p.tables e below (T.setTop { g with pc := g.pc + 1, stack := .int z :: rest }) target) : Steps p.tables e below (T.setTop g) target := by
  obtain ⟨cl, A, q1, S, q3, H, G⟩ := F
  refine X.arraylength hx (by rw [eT]; exact A.1) (State.isArrayOf_alike hZ.alike A.2.1) hg hs hd _ ?_
  rw [len_of S q3]; exact kk
theorem stCV (X : Stand p l e R s m args below meth c T locs cells slots) (hx : p.tables.exec = Jvm.exec) (hZ : Z.Warmed39 s.vm) (eT : T.heap = h) {a : Addr} {k : ClassId} {z : Int32} {vs : List Value} {d : Value} (F : Arv Z h a k .char z vs d) {j x : Int32} {i : Nat} (hj : ¬ j < 0 ∧ j < z) (hi : j.toNatClampNeg = i) (hl : i < vs.length) {g : JFrame} (hg : g.method = m) {rest : List Value} (hs : g.stack = .int x :: .int j :: .ref a :: rest) (hd : decode c.code g.pc = .ok (.castore, 1)) :
    ∃ T' h', Stand p l e R s m args below meth c T' (locs ++ [⟨a, j.toNatClampNeg⟩]) cells slots ∧ T'.heap = h' ∧ Wr h h' a j.toNatClampNeg (.int (nar .char x)) ∧ Arv Z h' a k .char z (vs.set i (.int (nar .char x))) d ∧ ∀ target, Steps p.tables e below (T'.setTop { g with pc := g.pc + 1, stack := rest }) target → Steps p.tables e below (T.setTop g) target := by
  obtain ⟨cl, A, q1, S, q3, H, G⟩ := F
  obtain ⟨T', h', X', e', W, st⟩ := stC X hx hZ eT A (inb_of S hj) hg hs hd
  exact ⟨T', h', X', e', W, Arv.set A q1 S q3 H G (fits_nar_char _) W i hi hl, st⟩
theorem stBV (X : Stand p l e R s m args below meth c T locs cells slots) (hx : p.tables.exec = Jvm.exec) (hZ : Z.Warmed39 s.vm) (eT : T.heap = h) {a : Addr} {k : ClassId} {z : Int32} {vs : List Value} {d : Value} (F : Arv Z h a k .byte z vs d) {j x : Int32} {i : Nat} (hj : ¬ j < 0 ∧ j < z) (hi : j.toNatClampNeg = i) (hl : i < vs.length) {g : JFrame} (hg : g.method = m) {rest : List Value} (hs : g.stack = .int x :: .int j :: .ref a :: rest) (hd : decode c.code g.pc = .ok (.bastore, 1)) :
    ∃ T' h', Stand p l e R s m args below meth c T' (locs ++ [⟨a, j.toNatClampNeg⟩]) cells slots ∧ T'.heap = h' ∧ Wr h h' a j.toNatClampNeg (.int (nar .byte x)) ∧ Arv Z h' a k .byte z (vs.set i (.int (nar .byte x))) d ∧ ∀ target, Steps p.tables e below (T'.setTop { g with pc := g.pc + 1, stack := rest }) target → Steps p.tables e below (T.setTop g) target := by
  obtain ⟨cl, A, q1, S, q3, H, G⟩ := F
  obtain ⟨T', h', X', e', W, st⟩ := stB X hx hZ eT A (inb_of S hj) hg hs hd
  exact ⟨T', h', X', e', W, Arv.set A q1 S q3 H G (fits_nar_byte _) W i hi hl, st⟩
theorem eqv_r {Z : State} {args : Array Value} {X F : Term} {idx : List Nat} {y : Addr} (hF : F.eval args Z none idx Z = some (.ref y)) (h : (Cond.eq X F).value args Z none Z idx = some true) : X.eval args Z none idx Z = some (.ref y) := by
  cases hX : X.eval args Z none idx Z with
  | none => simp [Cond.value, hX] at h
  | some v => cases v <;> simp [Cond.value, hX, hF] at h ⊢; exact h
theorem Arv.startL {Z : State} {args : Array Value} {t : Term} {a : Addr} {ty : FieldType} {z : Int32} {vs : List Value} {dv : Value} (hf : Fit Z) (et : t.eval args Z none [] Z = some (.ref a)) (ha : (Cond.arrayOf t ty).value args Z none Z [] = some true) (hl : (Cond.eq (.length t) (.int z)).value args Z none Z [] = some true)
    (hz : ¬ z < 0) (hn : z.toNatClampNeg = vs.length) (H : ∀ c, Z.heap[a]? = some c → HasL c 0 vs) : ∃ k, Arv Z Z.heap a k ty z vs dv := by
  obtain ⟨c, A⟩ := Arr.start et ha
  obtain ⟨b, cell, e1, e2, e3, e4⟩ := Jvm.Lib.length_spec (eqv_i rfl hl)
  cases et.symm.trans e1
  cases (A.fin (Vm.Alike.refl _)).symm.trans e2
  exact ⟨c.cls, Arv.start hf A e3 (Value.int.inj e4).symm hz hn (H c A.1)⟩
theorem Keep.toExt (K : Keep h h' []) : Ext h h' := ⟨K.1, fun a c q => K.2.1 a c q (fun z => nomatch z)⟩
theorem Ext.toKeep (E : Ext h h') : Keep h h' [] := ⟨E.1, fun a c q _ => E.2 a c q, fun a c q => ⟨c, E.2 a c q, rfl, rfl, rfl⟩⟩
theorem Ext.refl (h : Heap) : Ext h h := ⟨Nat.le_refl _, fun _ _ q => q⟩
theorem Ext.tr {h2 : Heap} (A : Ext h h') (B : Ext h' h2) : Ext h h2 := ⟨Nat.le_trans A.1 B.1, fun a c q => B.2 a c (A.2 a c q)⟩
theorem Ext.thenK {h2 : Heap} {ws : List Addr} (A : Ext h h') (K : Keep h' h2 ws) (q : ∀ x ∈ ws, h.size ≤ x) : Ext h h2 := (A.toKeep.trans K fun x hx => Or.inr (q x hx)).toExt
theorem Ext.thenW {h2 : Heap} {a : Addr} {sl : Nat} {v : Value} (A : Ext h h') (W : Wr h' h2 a sl v) (q : h.size ≤ a) : Ext h h2 := (A.toKeep.wr W (Or.inr q)).toExt
theorem i2c_id {x : Int32} (h : 0 ≤ x.toInt ∧ x.toInt < 65536) : x.toUInt32.toUInt16.toUInt32.toInt32 = x := by
  have q := c_i2c x
  exact Int32.toInt_inj.mp (by omega)
theorem i2b_id {x : Int32} (h : -128 ≤ x.toInt ∧ x.toInt < 128) : x.toInt8.toInt32 = x := by
  have q := c_i2b x
  exact Int32.toInt_inj.mp (by omega)
theorem nar_b {x : Int32} : nar .byte (x.toInt8.toInt32) = x.toInt8.toInt32 := i2b_id (c_i2b x).2
theorem nar_c {x : Int32} : nar .char (x.toUInt32.toUInt16.toUInt32.toInt32) = x.toUInt32.toUInt16.toUInt32.toInt32 := i2c_id (c_i2c x).2
theorem nar_cid {x : Int32} (h : 0 ≤ x.toInt ∧ x.toInt < 65536) : nar .char x = x := i2c_id h
theorem and255 (x : Int32) : 0 ≤ ((x &&& 255).toUInt32.toUInt16.toUInt32.toInt32).toInt ∧ ((x &&& 255).toUInt32.toUInt16.toUInt32.toInt32).toInt ≤ 255 := by
  have h := c_mask x 255 8 (by decide) (by decide)
  have q := c_i2c (x &&& 255)
  omega
theorem le255 {x : Int32} (h : 0 ≤ x.toInt ∧ x.toInt ≤ 255) : ¬ (255 : Int32) < x := by rw [Int32.lt_iff_toInt_lt]; have : (255 : Int32).toInt = 255 := rfl; omega
theorem ne_lt {x b i j : Nat} (h1 : x < i) (h2 : i ≤ j) (h3 : j ≤ b) : x ≠ b := by omega
theorem own_add0 (n : Nat) : n + 0 = n := rfl
end OwnGo
end Jvm.RoadKit
namespace Jvm.Pilot.@@N@@
open Jvm Jvm.ClassFile Sem Op Lib Jvm.Free Jvm.Stand Jvm.LawKit Jvm.RoadKit Bundle Jvm.Pilot.@@N@@.Jvm.D
theorem d3_0 : decode jdk_37_method_2_code 0 = .ok (.aload_n 0, 1) := by decide +kernel
theorem d3_1 : decode jdk_37_method_2_code 1 = .ok (.getfield 7, 3) := by decide +kernel
theorem w19 {a0 : Array Value} {Z : State} (hw : ∀ d ∈ tables_1, d.before a0 Z = true) : ((Jvm.Cond.fieldLink "java/lang/Enum" (7 : Nat) "java/lang/Enum" "ordinal" "I")).before a0 Z = true := hw _ (List.mem_of_getElem? (i := 19) rfl)
theorem d3_4 : decode jdk_37_method_2_code 4 = .ok (.ireturn, 1) := by decide +kernel
def rr_ordinal : Room := { frames := 0, cells := 0, slots := 0, locals := 0 }
theorem pn0 : plainName "java/lang/Enum" = true := by first | (simp [plainName, overriddenIn]; done) | decide +kernel
set_option maxRecDepth 65536 in
set_option maxHeartbeats 40000000 in
theorem rm_ordinal (l : Launch) (Z : State) (a0 : Array Value) (hw : ∀ d ∈ tables_1, d.before a0 Z = true) (ws : List Jvm.Cond) (a1 : Addr) (o : Int32) (h0 : Heap) (n0 : Nat) (Z0 : n0 ≤ h0.size) (F0 : Fld Z h0 a1 "java/lang/Enum" "ordinal" "I" (.int o)) :
    Con l Z (⟨"java/lang/Enum", "ordinal", "()I"⟩ : MethodName) jdk_37_method_2_code 1 (some .int) ws rr_ordinal #[(.ref a1)] h0 (fun v h L => v = some (.int o) ∧ Fr n0 L ∧ h = h0) := by
  refine Con.enter (plainFor_of_name pn0) ?_
  intro p e s m below meth c s₁ X0 hx hZ hby hml hret hlk hown hnm e0
  have N0 := Fr.nil n0
  refine Go.cast (g' := (mkF m 0 #[.val (.ref a1)] [])) (by first | rfl | (simp [entryFrame, mkF, argsToLocals, Value.category]; done)) ?_
  refine Go.st (T' := s₁) (g' := (mkF m 1 #[.val (.ref a1)] [(.ref a1)])) (fun _ k => XS.aloadN X0.here hx rfl (hb hby d3_0) rfl rfl k) ?_
  obtain ⟨T1, X1, e1, st1⟩ := getF X0 hx hZ hown (host := "") (Or.inl (w19 hw)) Via.refl e0 F0 (g := (mkF m 1 #[.val (.ref a1)] [(.ref a1)])) rfl rfl (hb hby d3_1)
  refine Go.st (T' := T1) (g' := (mkF m 4 #[.val (.ref a1)] [(.int o)])) (fun _ k => st1 _ k) ?_
  refine Go.retN X1 hx hlk hret rfl (by simp) (hb hby d3_4) (by decide) (by decide) e1 ?_
  exact ⟨rfl, N0, rfl⟩
theorem d2_0 : decode prog_11_method_5_code 0 = .ok (.aload_n 0, 1) := by decide +kernel
theorem w18 {a0 : Array Value} {Z : State} (hw : ∀ d ∈ tables_1, d.before a0 Z = true) : ((Jvm.Cond.code ({ cls := "java/lang/Enum", name := "ordinal", desc := "()I" } : Jvm.MethodName) jdk_37_method_2_code (1 : Nat) (Option.some Jvm.ClassFile.FieldType.int))).before a0 Z = true := hw _ (List.mem_of_getElem? (i := 18) rfl)
theorem w17 {a0 : Array Value} {Z : State} (hw : ∀ d ∈ tables_1, d.before a0 Z = true) : ((Jvm.Cond.initialized "java/lang/Enum")).before a0 Z = true := hw _ (List.mem_of_getElem? (i := 17) rfl)
theorem pd1 : parseMethodDescriptor "()I" = some ⟨[], some .int⟩ := by decide +kernel
theorem d2_1 : decode prog_11_method_5_code 1 = .ok (.invokevirtual 63, 3) := by decide +kernel
theorem w16 {a0 : Array Value} {Z : State} (hw : ∀ d ∈ tables_1, d.before a0 Z = true) : ((Jvm.Cond.selects "com/example/payment_retry_queue/paymentretryqueue/EntryState" ({ cls := "com/example/payment_retry_queue/paymentretryqueue/EntryState", name := "ordinal", desc := "()I" } : Jvm.MethodName) ({ cls := "java/lang/Enum", name := "ordinal", desc := "()I" } : Jvm.MethodName))).before a0 Z = true := hw _ (List.mem_of_getElem? (i := 16) rfl)
theorem w15 {a0 : Array Value} {Z : State} (hw : ∀ d ∈ tables_1, d.before a0 Z = true) : ((Jvm.Cond.instanceMethod ({ cls := "java/lang/Enum", name := "ordinal", desc := "()I" } : Jvm.MethodName))).before a0 Z = true := hw _ (List.mem_of_getElem? (i := 15) rfl)
theorem w12 {a0 : Array Value} {Z : State} (hw : ∀ d ∈ tables_1, d.before a0 Z = true) : ((Jvm.Cond.methodLink "com/example/payment_retry_queue/paymentretryqueue/EntryState" (63 : Nat) ({ cls := "com/example/payment_retry_queue/paymentretryqueue/EntryState", name := "ordinal", desc := "()I" } : Jvm.MethodName))).before a0 Z = true := hw _ (List.mem_of_getElem? (i := 12) rfl)
theorem w13 {a0 : Array Value} {Z : State} (hw : ∀ d ∈ tables_1, d.before a0 Z = true) : ((Jvm.Cond.sameMethod "com/example/payment_retry_queue/paymentretryqueue/EntryState" "java/lang/Enum" "ordinal" "()I")).before a0 Z = true := hw _ (List.mem_of_getElem? (i := 13) rfl)
theorem w14 {a0 : Array Value} {Z : State} (hw : ∀ d ∈ tables_1, d.before a0 Z = true) : ((Jvm.Cond.declares ({ cls := "java/lang/Enum", name := "ordinal", desc := "()I" } : Jvm.MethodName))).before a0 Z = true := hw _ (List.mem_of_getElem? (i := 14) rfl)
theorem d2_4 : decode prog_11_method_5_code 4 = .ok (.tableswitch 48 0 7 #[62, 62, 62, 62, 58, 58, 58, 58], 48) := by decide +kernel
theorem d2_66 : decode prog_11_method_5_code 66 = .ok (.iconst 0, 1) := by decide +kernel
theorem d2_67 : decode prog_11_method_5_code 67 = .ok (.ireturn, 1) := by decide +kernel
theorem d2_62 : decode prog_11_method_5_code 62 = .ok (.iconst 1, 1) := by decide +kernel
theorem d2_63 : decode prog_11_method_5_code 63 = .ok (.goto 4, 3) := by decide +kernel
def rr_isFinal : Room := { frames := 1, cells := 0, slots := 0, locals := 12 }
theorem pn2 : plainName "com/example/payment_retry_queue/paymentretryqueue/EntryState" = true := by first | (simp [plainName, overriddenIn]; done) | decide +kernel
set_option maxRecDepth 65536 in
set_option maxHeartbeats 40000000 in
theorem rm_isFinal (l : Launch) (Z : State) (a0 : Array Value) (hw : ∀ d ∈ tables_1, d.before a0 Z = true) (ws : List Jvm.Cond) (a1 : Addr) (o r : Int32) (h0 : Heap) (n0 : Nat) (Z0 : n0 ≤ h0.size) (E0 : Exa Z h0 a1 "com/example/payment_retry_queue/paymentretryqueue/EntryState") (F0 : Fld Z h0 a1 "java/lang/Enum" "ordinal" "I" (.int o)) (ho : (o = 0 ∧ r = 0) ∨ (o = 1 ∧ r = 0) ∨ (o = 2 ∧ r = 0) ∨ (o = 3 ∧ r = 0) ∨ (o = 4 ∧ r = 1) ∨ (o = 5 ∧ r = 1) ∨ (o = 6 ∧ r = 1) ∨ (o = 7 ∧ r = 1)) :
    Con l Z (⟨"com/example/payment_retry_queue/paymentretryqueue/EntryState", "isFinal", "()Z"⟩ : MethodName) prog_11_method_5_code 1 (some .boolean) ws rr_isFinal #[(.ref a1)] h0 (fun v h L => v = some (.int r) ∧ Fr n0 L ∧ h = h0) := by
  refine Con.enter (plainFor_of_name pn2) ?_
  intro p e s m below meth c s₁ X0 hx hZ hby hml hret hlk hown hnm e0
  have N0 := Fr.nil n0
  refine Go.cast (g' := (mkF m 0 #[.val (.ref a1)] [])) (by first | rfl | (simp [entryFrame, mkF, argsToLocals, Value.category]; done)) ?_
  refine Go.st (T' := s₁) (g' := (mkF m 1 #[.val (.ref a1)] [(.ref a1)])) (fun _ k => XS.aloadN X0.here hx rfl (hb hby d2_0) rfl rfl k) ?_
  refine Go.callUp (y := (⟨"com/example/payment_retry_queue/paymentretryqueue/EntryState", "ordinal", "()I"⟩ : MethodName)) (z := (⟨"java/lang/Enum", "ordinal", "()I"⟩ : MethodName)) (C := "com/example/payment_retry_queue/paymentretryqueue/EntryState") (owner := "java/lang/Enum") (a := a1) X0 hx hZ hown e0 (w12 hw) (w13 hw) (w14 hw) (by decide) (w16 hw) (w15 hw) (w17 hw) (w18 hw) E0 (argsL := []) (rest := []) (W := 0) (rm_ordinal l Z a0 hw [] a1 o h0 n0 Z0 F0) rfl (lenOf pd1 rfl) rfl (by rw [hml]; rfl) rfl (by show 2 * 0 + _ ≤ _; exact Nat.le_of_eq rfl) (by decide) (by decide) (by decide) (by decide) (hb hby d2_1) ?_
  intro v1 T1 h1 L1 X1 e1 q1
  obtain ⟨hv1, Nf1, hh1⟩ := q1
  subst hv1
  have E1 : T1.heap = h0 := e1.trans hh1
  have N1 := Fr.app N0 Nf1
  show Go p.tables e below _ T1 (mkF m 4 #[.val (.ref a1)] [(.int o)])
  rcases ho with ⟨rfl, rfl⟩ | ⟨rfl, rfl⟩ | ⟨rfl, rfl⟩ | ⟨rfl, rfl⟩ | ⟨rfl, rfl⟩ | ⟨rfl, rfl⟩ | ⟨rfl, rfl⟩ | ⟨rfl, rfl⟩
  · refine Go.st (T' := T1) (g' := (mkF m 66 #[.val (.ref a1)] [])) (fun _ k => XS.tswIn X1.here hx rfl (pc0 := 4) (pc' := 66) (o := 62) rfl (hb hby d2_4) rfl (by decide) (by decide) (by decide) (by decide) k) ?_
    refine Go.st (T' := T1) (g' := (mkF m 67 #[.val (.ref a1)] [(.int (0 : Int32))])) (fun _ k => XS.iconst X1.here hx rfl (hb hby d2_66) k) ?_
    refine Go.retN X1 hx hlk hret rfl (by simp) (hb hby d2_67) (by decide) (by decide) E1 ?_
    exact ⟨rfl, N1, rfl⟩
  · refine Go.st (T' := T1) (g' := (mkF m 66 #[.val (.ref a1)] [])) (fun _ k => XS.tswIn X1.here hx rfl (pc0 := 4) (pc' := 66) (o := 62) rfl (hb hby d2_4) rfl (by decide) (by decide) (by decide) (by decide) k) ?_
    refine Go.st (T' := T1) (g' := (mkF m 67 #[.val (.ref a1)] [(.int (0 : Int32))])) (fun _ k => XS.iconst X1.here hx rfl (hb hby d2_66) k) ?_
    refine Go.retN X1 hx hlk hret rfl (by simp) (hb hby d2_67) (by decide) (by decide) E1 ?_
    exact ⟨rfl, N1, rfl⟩
  · refine Go.st (T' := T1) (g' := (mkF m 66 #[.val (.ref a1)] [])) (fun _ k => XS.tswIn X1.here hx rfl (pc0 := 4) (pc' := 66) (o := 62) rfl (hb hby d2_4) rfl (by decide) (by decide) (by decide) (by decide) k) ?_
    refine Go.st (T' := T1) (g' := (mkF m 67 #[.val (.ref a1)] [(.int (0 : Int32))])) (fun _ k => XS.iconst X1.here hx rfl (hb hby d2_66) k) ?_
    refine Go.retN X1 hx hlk hret rfl (by simp) (hb hby d2_67) (by decide) (by decide) E1 ?_
    exact ⟨rfl, N1, rfl⟩
  · refine Go.st (T' := T1) (g' := (mkF m 66 #[.val (.ref a1)] [])) (fun _ k => XS.tswIn X1.here hx rfl (pc0 := 4) (pc' := 66) (o := 62) rfl (hb hby d2_4) rfl (by decide) (by decide) (by decide) (by decide) k) ?_
    refine Go.st (T' := T1) (g' := (mkF m 67 #[.val (.ref a1)] [(.int (0 : Int32))])) (fun _ k => XS.iconst X1.here hx rfl (hb hby d2_66) k) ?_
    refine Go.retN X1 hx hlk hret rfl (by simp) (hb hby d2_67) (by decide) (by decide) E1 ?_
    exact ⟨rfl, N1, rfl⟩
  · refine Go.st (T' := T1) (g' := (mkF m 62 #[.val (.ref a1)] [])) (fun _ k => XS.tswIn X1.here hx rfl (pc0 := 4) (pc' := 62) (o := 58) rfl (hb hby d2_4) rfl (by decide) (by decide) (by decide) (by decide) k) ?_
    refine Go.st (T' := T1) (g' := (mkF m 63 #[.val (.ref a1)] [(.int (1 : Int32))])) (fun _ k => XS.iconst X1.here hx rfl (hb hby d2_62) k) ?_
    refine Go.st (T' := T1) (g' := (mkF m 67 #[.val (.ref a1)] [(.int (1 : Int32))])) (fun _ k => XS.goto X1.here hx rfl (pc0 := 63) (pc' := 67) rfl (hb hby d2_63) (by decide) (by decide) k) ?_
    refine Go.retN X1 hx hlk hret rfl (by simp) (hb hby d2_67) (by decide) (by decide) E1 ?_
    exact ⟨rfl, N1, rfl⟩
  · refine Go.st (T' := T1) (g' := (mkF m 62 #[.val (.ref a1)] [])) (fun _ k => XS.tswIn X1.here hx rfl (pc0 := 4) (pc' := 62) (o := 58) rfl (hb hby d2_4) rfl (by decide) (by decide) (by decide) (by decide) k) ?_
    refine Go.st (T' := T1) (g' := (mkF m 63 #[.val (.ref a1)] [(.int (1 : Int32))])) (fun _ k => XS.iconst X1.here hx rfl (hb hby d2_62) k) ?_
    refine Go.st (T' := T1) (g' := (mkF m 67 #[.val (.ref a1)] [(.int (1 : Int32))])) (fun _ k => XS.goto X1.here hx rfl (pc0 := 63) (pc' := 67) rfl (hb hby d2_63) (by decide) (by decide) k) ?_
    refine Go.retN X1 hx hlk hret rfl (by simp) (hb hby d2_67) (by decide) (by decide) E1 ?_
    exact ⟨rfl, N1, rfl⟩
  · refine Go.st (T' := T1) (g' := (mkF m 62 #[.val (.ref a1)] [])) (fun _ k => XS.tswIn X1.here hx rfl (pc0 := 4) (pc' := 62) (o := 58) rfl (hb hby d2_4) rfl (by decide) (by decide) (by decide) (by decide) k) ?_
    refine Go.st (T' := T1) (g' := (mkF m 63 #[.val (.ref a1)] [(.int (1 : Int32))])) (fun _ k => XS.iconst X1.here hx rfl (hb hby d2_62) k) ?_
    refine Go.st (T' := T1) (g' := (mkF m 67 #[.val (.ref a1)] [(.int (1 : Int32))])) (fun _ k => XS.goto X1.here hx rfl (pc0 := 63) (pc' := 67) rfl (hb hby d2_63) (by decide) (by decide) k) ?_
    refine Go.retN X1 hx hlk hret rfl (by simp) (hb hby d2_67) (by decide) (by decide) E1 ?_
    exact ⟨rfl, N1, rfl⟩
  · refine Go.st (T' := T1) (g' := (mkF m 62 #[.val (.ref a1)] [])) (fun _ k => XS.tswIn X1.here hx rfl (pc0 := 4) (pc' := 62) (o := 58) rfl (hb hby d2_4) rfl (by decide) (by decide) (by decide) (by decide) k) ?_
    refine Go.st (T' := T1) (g' := (mkF m 63 #[.val (.ref a1)] [(.int (1 : Int32))])) (fun _ k => XS.iconst X1.here hx rfl (hb hby d2_62) k) ?_
    refine Go.st (T' := T1) (g' := (mkF m 67 #[.val (.ref a1)] [(.int (1 : Int32))])) (fun _ k => XS.goto X1.here hx rfl (pc0 := 63) (pc' := 67) rfl (hb hby d2_63) (by decide) (by decide) k) ?_
    refine Go.retN X1 hx hlk hret rfl (by simp) (hb hby d2_67) (by decide) (by decide) E1 ?_
    exact ⟨rfl, N1, rfl⟩
def Sts (Z : State) (A : Nat → Addr) : Prop := Sta Z Z.heap "com/example/payment_retry_queue/paymentretryqueue/EntryState" "WAITING" "Lcom/example/payment_retry_queue/paymentretryqueue/EntryState;" (.ref (A 0)) ∧ Sta Z Z.heap "com/example/payment_retry_queue/paymentretryqueue/EntryState" "IN_FLIGHT" "Lcom/example/payment_retry_queue/paymentretryqueue/EntryState;" (.ref (A 1)) ∧ Sta Z Z.heap "com/example/payment_retry_queue/paymentretryqueue/EntryState" "UNCERTAIN" "Lcom/example/payment_retry_queue/paymentretryqueue/EntryState;" (.ref (A 2)) ∧ Sta Z Z.heap "com/example/payment_retry_queue/paymentretryqueue/EntryState" "COMPENSATING" "Lcom/example/payment_retry_queue/paymentretryqueue/EntryState;" (.ref (A 3)) ∧ Sta Z Z.heap "com/example/payment_retry_queue/paymentretryqueue/EntryState" "SUCCEEDED" "Lcom/example/payment_retry_queue/paymentretryqueue/EntryState;" (.ref (A 4)) ∧ Sta Z Z.heap "com/example/payment_retry_queue/paymentretryqueue/EntryState" "FAILED" "Lcom/example/payment_retry_queue/paymentretryqueue/EntryState;" (.ref (A 5)) ∧ Sta Z Z.heap "com/example/payment_retry_queue/paymentretryqueue/EntryState" "COMPENSATED" "Lcom/example/payment_retry_queue/paymentretryqueue/EntryState;" (.ref (A 6)) ∧ Sta Z Z.heap "com/example/payment_retry_queue/paymentretryqueue/EntryState" "DEAD_LETTERED" "Lcom/example/payment_retry_queue/paymentretryqueue/EntryState;" (.ref (A 7))
theorem d1_0 : decode method_2_code 0 = .ok (.iload_n 0, 1) := by decide +kernel
theorem d1_1 : decode method_2_code 1 = .ok (.ifCond .ne 7, 3) := by decide +kernel
theorem d1_4 : decode method_2_code 4 = .ok (.getstatic 7, 3) := by decide +kernel
theorem w4 {a0 : Array Value} {Z : State} (hw : ∀ d ∈ tables_1, d.before a0 Z = true) : ((Jvm.Cond.fieldLink "com/example/payment_retry_queue/paymentretryqueue/EntryStateIsFinalPinLaw" (7 : Nat) "com/example/payment_retry_queue/paymentretryqueue/EntryState" "WAITING" "Lcom/example/payment_retry_queue/paymentretryqueue/EntryState;")).before a0 Z = true := hw _ (List.mem_of_getElem? (i := 4) rfl)
theorem d1_7 : decode method_2_code 7 = .ok (.areturn, 1) := by decide +kernel
theorem d1_8 : decode method_2_code 8 = .ok (.iload_n 0, 1) := by decide +kernel
theorem d1_9 : decode method_2_code 9 = .ok (.iconst 1, 1) := by decide +kernel
theorem d1_10 : decode method_2_code 10 = .ok (.if_icmp .ne 7, 3) := by decide +kernel
theorem d1_13 : decode method_2_code 13 = .ok (.getstatic 13, 3) := by decide +kernel
theorem w29 {a0 : Array Value} {Z : State} (hw : ∀ d ∈ tables_1, d.before a0 Z = true) : ((Jvm.Cond.fieldLink "com/example/payment_retry_queue/paymentretryqueue/EntryStateIsFinalPinLaw" (13 : Nat) "com/example/payment_retry_queue/paymentretryqueue/EntryState" "IN_FLIGHT" "Lcom/example/payment_retry_queue/paymentretryqueue/EntryState;")).before a0 Z = true := hw _ (List.mem_of_getElem? (i := 29) rfl)
theorem d1_16 : decode method_2_code 16 = .ok (.areturn, 1) := by decide +kernel
theorem d1_17 : decode method_2_code 17 = .ok (.iload_n 0, 1) := by decide +kernel
theorem d1_18 : decode method_2_code 18 = .ok (.iconst 2, 1) := by decide +kernel
theorem d1_19 : decode method_2_code 19 = .ok (.if_icmp .ne 7, 3) := by decide +kernel
theorem d1_22 : decode method_2_code 22 = .ok (.getstatic 16, 3) := by decide +kernel
theorem w27 {a0 : Array Value} {Z : State} (hw : ∀ d ∈ tables_1, d.before a0 Z = true) : ((Jvm.Cond.fieldLink "com/example/payment_retry_queue/paymentretryqueue/EntryStateIsFinalPinLaw" (16 : Nat) "com/example/payment_retry_queue/paymentretryqueue/EntryState" "UNCERTAIN" "Lcom/example/payment_retry_queue/paymentretryqueue/EntryState;")).before a0 Z = true := hw _ (List.mem_of_getElem? (i := 27) rfl)
theorem d1_25 : decode method_2_code 25 = .ok (.areturn, 1) := by decide +kernel
theorem d1_26 : decode method_2_code 26 = .ok (.iload_n 0, 1) := by decide +kernel
theorem d1_27 : decode method_2_code 27 = .ok (.iconst 3, 1) := by decide +kernel
theorem d1_28 : decode method_2_code 28 = .ok (.if_icmp .ne 7, 3) := by decide +kernel
theorem d1_31 : decode method_2_code 31 = .ok (.getstatic 19, 3) := by decide +kernel
theorem w21 {a0 : Array Value} {Z : State} (hw : ∀ d ∈ tables_1, d.before a0 Z = true) : ((Jvm.Cond.fieldLink "com/example/payment_retry_queue/paymentretryqueue/EntryStateIsFinalPinLaw" (19 : Nat) "com/example/payment_retry_queue/paymentretryqueue/EntryState" "COMPENSATING" "Lcom/example/payment_retry_queue/paymentretryqueue/EntryState;")).before a0 Z = true := hw _ (List.mem_of_getElem? (i := 21) rfl)
theorem d1_34 : decode method_2_code 34 = .ok (.areturn, 1) := by decide +kernel
theorem d1_35 : decode method_2_code 35 = .ok (.iload_n 0, 1) := by decide +kernel
theorem d1_36 : decode method_2_code 36 = .ok (.iconst 4, 1) := by decide +kernel
theorem d1_37 : decode method_2_code 37 = .ok (.if_icmp .ne 7, 3) := by decide +kernel
theorem d1_40 : decode method_2_code 40 = .ok (.getstatic 22, 3) := by decide +kernel
theorem w31 {a0 : Array Value} {Z : State} (hw : ∀ d ∈ tables_1, d.before a0 Z = true) : ((Jvm.Cond.fieldLink "com/example/payment_retry_queue/paymentretryqueue/EntryStateIsFinalPinLaw" (22 : Nat) "com/example/payment_retry_queue/paymentretryqueue/EntryState" "SUCCEEDED" "Lcom/example/payment_retry_queue/paymentretryqueue/EntryState;")).before a0 Z = true := hw _ (List.mem_of_getElem? (i := 31) rfl)
theorem d1_43 : decode method_2_code 43 = .ok (.areturn, 1) := by decide +kernel
theorem d1_44 : decode method_2_code 44 = .ok (.iload_n 0, 1) := by decide +kernel
theorem d1_45 : decode method_2_code 45 = .ok (.iconst 5, 1) := by decide +kernel
theorem d1_46 : decode method_2_code 46 = .ok (.if_icmp .ne 7, 3) := by decide +kernel
theorem d1_49 : decode method_2_code 49 = .ok (.getstatic 25, 3) := by decide +kernel
theorem w33 {a0 : Array Value} {Z : State} (hw : ∀ d ∈ tables_1, d.before a0 Z = true) : ((Jvm.Cond.fieldLink "com/example/payment_retry_queue/paymentretryqueue/EntryStateIsFinalPinLaw" (25 : Nat) "com/example/payment_retry_queue/paymentretryqueue/EntryState" "FAILED" "Lcom/example/payment_retry_queue/paymentretryqueue/EntryState;")).before a0 Z = true := hw _ (List.mem_of_getElem? (i := 33) rfl)
theorem d1_52 : decode method_2_code 52 = .ok (.areturn, 1) := by decide +kernel
theorem d1_53 : decode method_2_code 53 = .ok (.iload_n 0, 1) := by decide +kernel
theorem d1_54 : decode method_2_code 54 = .ok (.bipush 6, 2) := by decide +kernel
theorem d1_56 : decode method_2_code 56 = .ok (.if_icmp .ne 7, 3) := by decide +kernel
theorem d1_59 : decode method_2_code 59 = .ok (.getstatic 28, 3) := by decide +kernel
theorem w23 {a0 : Array Value} {Z : State} (hw : ∀ d ∈ tables_1, d.before a0 Z = true) : ((Jvm.Cond.fieldLink "com/example/payment_retry_queue/paymentretryqueue/EntryStateIsFinalPinLaw" (28 : Nat) "com/example/payment_retry_queue/paymentretryqueue/EntryState" "COMPENSATED" "Lcom/example/payment_retry_queue/paymentretryqueue/EntryState;")).before a0 Z = true := hw _ (List.mem_of_getElem? (i := 23) rfl)
theorem d1_62 : decode method_2_code 62 = .ok (.areturn, 1) := by decide +kernel
theorem d1_63 : decode method_2_code 63 = .ok (.getstatic 31, 3) := by decide +kernel
theorem w25 {a0 : Array Value} {Z : State} (hw : ∀ d ∈ tables_1, d.before a0 Z = true) : ((Jvm.Cond.fieldLink "com/example/payment_retry_queue/paymentretryqueue/EntryStateIsFinalPinLaw" (31 : Nat) "com/example/payment_retry_queue/paymentretryqueue/EntryState" "DEAD_LETTERED" "Lcom/example/payment_retry_queue/paymentretryqueue/EntryState;")).before a0 Z = true := hw _ (List.mem_of_getElem? (i := 25) rfl)
theorem d1_66 : decode method_2_code 66 = .ok (.areturn, 1) := by decide +kernel
def rr_pick : Room := { frames := 0, cells := 0, slots := 0, locals := 0 }
theorem pn3 : plainName "com/example/payment_retry_queue/paymentretryqueue/EntryStateIsFinalPinLaw" = true := by first | (simp [plainName, overriddenIn]; done) | decide +kernel
set_option maxRecDepth 65536 in
set_option maxHeartbeats 40000000 in
theorem rm_pick (l : Launch) (Z : State) (a0 : Array Value) (hw : ∀ d ∈ tables_1, d.before a0 Z = true) (ws : List Jvm.Cond) (k : Int32) (a : Addr) (A : Nat → Addr) (h0 : Heap) (n0 : Nat) (Z0 : n0 ≤ h0.size) (O0 : Old Z n0 h0) (SS : Sts Z A) (hk : (k = 0 ∧ a = A 0) ∨ (k = 1 ∧ a = A 1) ∨ (k = 2 ∧ a = A 2) ∨ (k = 3 ∧ a = A 3) ∨ (k = 4 ∧ a = A 4) ∨ (k = 5 ∧ a = A 5) ∨ (k = 6 ∧ a = A 6) ∨ (k = 7 ∧ a = A 7)) :
    Con l Z (⟨"com/example/payment_retry_queue/paymentretryqueue/EntryStateIsFinalPinLaw", "pick", "(I)Lcom/example/payment_retry_queue/paymentretryqueue/EntryState;"⟩ : MethodName) method_2_code 1 (some (.object "com/example/payment_retry_queue/paymentretryqueue/EntryState")) ws rr_pick #[(.int k)] h0 (fun v h L => v = some (.ref a) ∧ Fr n0 L ∧ h = h0) := by
  refine Con.enter (plainFor_of_name pn3) ?_
  intro p e s m below meth c s₁ X0 hx hZ hby hml hret hlk hown hnm e0
  have N0 := Fr.nil n0
  refine Go.cast (g' := (mkF m 0 #[.val (.int k)] [])) (by first | rfl | (simp [entryFrame, mkF, argsToLocals, Value.category]; done)) ?_
  rcases hk with ⟨rfl, rfl⟩ | ⟨rfl, rfl⟩ | ⟨rfl, rfl⟩ | ⟨rfl, rfl⟩ | ⟨rfl, rfl⟩ | ⟨rfl, rfl⟩ | ⟨rfl, rfl⟩ | ⟨rfl, rfl⟩
  · refine Go.st (T' := s₁) (g' := (mkF m 1 #[.val (.int (0 : Int32))] [(.int (0 : Int32))])) (fun _ k => XS.iloadN X0.here hx rfl (hb hby d1_0) rfl k) ?_
    refine Go.st (T' := s₁) (g' := (mkF m 4 #[.val (.int (0 : Int32))] [])) (fun _ k => XS.ifNo X0.here hx rfl (hb hby d1_1) rfl ((if0 _ _).trans (teq ((by decide) : (0 : Int32) = (0 : Int32))).2) k) ?_
    obtain ⟨T1, X1, e1, st1⟩ := getS2 X0 hx hZ hown (host := "") (Or.inl (w4 hw)) Via.refl e0 (SS.1.ext O0.2) (g := (mkF m 4 #[.val (.int (0 : Int32))] [])) rfl (hb hby d1_4)
    refine Go.st (T' := T1) (g' := (mkF m 7 #[.val (.int (0 : Int32))] [(.ref (A 0))])) (fun _ k => st1 _ k) ?_
    refine Go.retA X1 hx hlk hret rfl rfl (hb hby d1_7) (by decide) (by decide) e1 ?_
    exact ⟨rfl, N0, rfl⟩
  · refine Go.st (T' := s₁) (g' := (mkF m 1 #[.val (.int (1 : Int32))] [(.int (1 : Int32))])) (fun _ k => XS.iloadN X0.here hx rfl (hb hby d1_0) rfl k) ?_
    refine Go.st (T' := s₁) (g' := (mkF m 8 #[.val (.int (1 : Int32))] [])) (fun _ k => XS.ifYes X0.here hx rfl (pc0 := 1) (pc' := 8) rfl (hb hby d1_1) rfl ((if0 _ _).trans (feq ((by decide) : ¬ ((1 : Int32) = (0 : Int32)))).2) (by decide) (by decide) k) ?_
    refine Go.st (T' := s₁) (g' := (mkF m 9 #[.val (.int (1 : Int32))] [(.int (1 : Int32))])) (fun _ k => XS.iloadN X0.here hx rfl (hb hby d1_8) rfl k) ?_
    refine Go.st (T' := s₁) (g' := (mkF m 10 #[.val (.int (1 : Int32))] [(.int (1 : Int32)), (.int (1 : Int32))])) (fun _ k => XS.iconst X0.here hx rfl (hb hby d1_9) k) ?_
    refine Go.st (T' := s₁) (g' := (mkF m 13 #[.val (.int (1 : Int32))] [])) (fun _ k => XS.icmpNo X0.here hx rfl (hb hby d1_10) rfl (teq ((by decide) : (1 : Int32) = (1 : Int32))).2 k) ?_
    obtain ⟨T2, X2, e2, st2⟩ := getS2 X0 hx hZ hown (host := "") (Or.inl (w29 hw)) Via.refl e0 (SS.2.1.ext O0.2) (g := (mkF m 13 #[.val (.int (1 : Int32))] [])) rfl (hb hby d1_13)
    refine Go.st (T' := T2) (g' := (mkF m 16 #[.val (.int (1 : Int32))] [(.ref (A 1))])) (fun _ k => st2 _ k) ?_
    refine Go.retA X2 hx hlk hret rfl rfl (hb hby d1_16) (by decide) (by decide) e2 ?_
    exact ⟨rfl, N0, rfl⟩
  · refine Go.st (T' := s₁) (g' := (mkF m 1 #[.val (.int (2 : Int32))] [(.int (2 : Int32))])) (fun _ k => XS.iloadN X0.here hx rfl (hb hby d1_0) rfl k) ?_
    refine Go.st (T' := s₁) (g' := (mkF m 8 #[.val (.int (2 : Int32))] [])) (fun _ k => XS.ifYes X0.here hx rfl (pc0 := 1) (pc' := 8) rfl (hb hby d1_1) rfl ((if0 _ _).trans (feq ((by decide) : ¬ ((2 : Int32) = (0 : Int32)))).2) (by decide) (by decide) k) ?_
    refine Go.st (T' := s₁) (g' := (mkF m 9 #[.val (.int (2 : Int32))] [(.int (2 : Int32))])) (fun _ k => XS.iloadN X0.here hx rfl (hb hby d1_8) rfl k) ?_
    refine Go.st (T' := s₁) (g' := (mkF m 10 #[.val (.int (2 : Int32))] [(.int (1 : Int32)), (.int (2 : Int32))])) (fun _ k => XS.iconst X0.here hx rfl (hb hby d1_9) k) ?_
    refine Go.st (T' := s₁) (g' := (mkF m 17 #[.val (.int (2 : Int32))] [])) (fun _ k => XS.icmpYes X0.here hx rfl (pc0 := 10) (pc' := 17) rfl (hb hby d1_10) rfl (feq ((by decide) : ¬ ((2 : Int32) = (1 : Int32)))).2 (by decide) (by decide) k) ?_
    refine Go.st (T' := s₁) (g' := (mkF m 18 #[.val (.int (2 : Int32))] [(.int (2 : Int32))])) (fun _ k => XS.iloadN X0.here hx rfl (hb hby d1_17) rfl k) ?_
    refine Go.st (T' := s₁) (g' := (mkF m 19 #[.val (.int (2 : Int32))] [(.int (2 : Int32)), (.int (2 : Int32))])) (fun _ k => XS.iconst X0.here hx rfl (hb hby d1_18) k) ?_
    refine Go.st (T' := s₁) (g' := (mkF m 22 #[.val (.int (2 : Int32))] [])) (fun _ k => XS.icmpNo X0.here hx rfl (hb hby d1_19) rfl (teq ((by decide) : (2 : Int32) = (2 : Int32))).2 k) ?_
    obtain ⟨T3, X3, e3, st3⟩ := getS2 X0 hx hZ hown (host := "") (Or.inl (w27 hw)) Via.refl e0 (SS.2.2.1.ext O0.2) (g := (mkF m 22 #[.val (.int (2 : Int32))] [])) rfl (hb hby d1_22)
    refine Go.st (T' := T3) (g' := (mkF m 25 #[.val (.int (2 : Int32))] [(.ref (A 2))])) (fun _ k => st3 _ k) ?_
    refine Go.retA X3 hx hlk hret rfl rfl (hb hby d1_25) (by decide) (by decide) e3 ?_
    exact ⟨rfl, N0, rfl⟩
  · refine Go.st (T' := s₁) (g' := (mkF m 1 #[.val (.int (3 : Int32))] [(.int (3 : Int32))])) (fun _ k => XS.iloadN X0.here hx rfl (hb hby d1_0) rfl k) ?_
    refine Go.st (T' := s₁) (g' := (mkF m 8 #[.val (.int (3 : Int32))] [])) (fun _ k => XS.ifYes X0.here hx rfl (pc0 := 1) (pc' := 8) rfl (hb hby d1_1) rfl ((if0 _ _).trans (feq ((by decide) : ¬ ((3 : Int32) = (0 : Int32)))).2) (by decide) (by decide) k) ?_
    refine Go.st (T' := s₁) (g' := (mkF m 9 #[.val (.int (3 : Int32))] [(.int (3 : Int32))])) (fun _ k => XS.iloadN X0.here hx rfl (hb hby d1_8) rfl k) ?_
    refine Go.st (T' := s₁) (g' := (mkF m 10 #[.val (.int (3 : Int32))] [(.int (1 : Int32)), (.int (3 : Int32))])) (fun _ k => XS.iconst X0.here hx rfl (hb hby d1_9) k) ?_
    refine Go.st (T' := s₁) (g' := (mkF m 17 #[.val (.int (3 : Int32))] [])) (fun _ k => XS.icmpYes X0.here hx rfl (pc0 := 10) (pc' := 17) rfl (hb hby d1_10) rfl (feq ((by decide) : ¬ ((3 : Int32) = (1 : Int32)))).2 (by decide) (by decide) k) ?_
    refine Go.st (T' := s₁) (g' := (mkF m 18 #[.val (.int (3 : Int32))] [(.int (3 : Int32))])) (fun _ k => XS.iloadN X0.here hx rfl (hb hby d1_17) rfl k) ?_
    refine Go.st (T' := s₁) (g' := (mkF m 19 #[.val (.int (3 : Int32))] [(.int (2 : Int32)), (.int (3 : Int32))])) (fun _ k => XS.iconst X0.here hx rfl (hb hby d1_18) k) ?_
    refine Go.st (T' := s₁) (g' := (mkF m 26 #[.val (.int (3 : Int32))] [])) (fun _ k => XS.icmpYes X0.here hx rfl (pc0 := 19) (pc' := 26) rfl (hb hby d1_19) rfl (feq ((by decide) : ¬ ((3 : Int32) = (2 : Int32)))).2 (by decide) (by decide) k) ?_
    refine Go.st (T' := s₁) (g' := (mkF m 27 #[.val (.int (3 : Int32))] [(.int (3 : Int32))])) (fun _ k => XS.iloadN X0.here hx rfl (hb hby d1_26) rfl k) ?_
    refine Go.st (T' := s₁) (g' := (mkF m 28 #[.val (.int (3 : Int32))] [(.int (3 : Int32)), (.int (3 : Int32))])) (fun _ k => XS.iconst X0.here hx rfl (hb hby d1_27) k) ?_
    refine Go.st (T' := s₁) (g' := (mkF m 31 #[.val (.int (3 : Int32))] [])) (fun _ k => XS.icmpNo X0.here hx rfl (hb hby d1_28) rfl (teq ((by decide) : (3 : Int32) = (3 : Int32))).2 k) ?_
    obtain ⟨T4, X4, e4, st4⟩ := getS2 X0 hx hZ hown (host := "") (Or.inl (w21 hw)) Via.refl e0 (SS.2.2.2.1.ext O0.2) (g := (mkF m 31 #[.val (.int (3 : Int32))] [])) rfl (hb hby d1_31)
    refine Go.st (T' := T4) (g' := (mkF m 34 #[.val (.int (3 : Int32))] [(.ref (A 3))])) (fun _ k => st4 _ k) ?_
    refine Go.retA X4 hx hlk hret rfl rfl (hb hby d1_34) (by decide) (by decide) e4 ?_
    exact ⟨rfl, N0, rfl⟩
  · refine Go.st (T' := s₁) (g' := (mkF m 1 #[.val (.int (4 : Int32))] [(.int (4 : Int32))])) (fun _ k => XS.iloadN X0.here hx rfl (hb hby d1_0) rfl k) ?_
    refine Go.st (T' := s₁) (g' := (mkF m 8 #[.val (.int (4 : Int32))] [])) (fun _ k => XS.ifYes X0.here hx rfl (pc0 := 1) (pc' := 8) rfl (hb hby d1_1) rfl ((if0 _ _).trans (feq ((by decide) : ¬ ((4 : Int32) = (0 : Int32)))).2) (by decide) (by decide) k) ?_
    refine Go.st (T' := s₁) (g' := (mkF m 9 #[.val (.int (4 : Int32))] [(.int (4 : Int32))])) (fun _ k => XS.iloadN X0.here hx rfl (hb hby d1_8) rfl k) ?_
    refine Go.st (T' := s₁) (g' := (mkF m 10 #[.val (.int (4 : Int32))] [(.int (1 : Int32)), (.int (4 : Int32))])) (fun _ k => XS.iconst X0.here hx rfl (hb hby d1_9) k) ?_
    refine Go.st (T' := s₁) (g' := (mkF m 17 #[.val (.int (4 : Int32))] [])) (fun _ k => XS.icmpYes X0.here hx rfl (pc0 := 10) (pc' := 17) rfl (hb hby d1_10) rfl (feq ((by decide) : ¬ ((4 : Int32) = (1 : Int32)))).2 (by decide) (by decide) k) ?_
    refine Go.st (T' := s₁) (g' := (mkF m 18 #[.val (.int (4 : Int32))] [(.int (4 : Int32))])) (fun _ k => XS.iloadN X0.here hx rfl (hb hby d1_17) rfl k) ?_
    refine Go.st (T' := s₁) (g' := (mkF m 19 #[.val (.int (4 : Int32))] [(.int (2 : Int32)), (.int (4 : Int32))])) (fun _ k => XS.iconst X0.here hx rfl (hb hby d1_18) k) ?_
    refine Go.st (T' := s₁) (g' := (mkF m 26 #[.val (.int (4 : Int32))] [])) (fun _ k => XS.icmpYes X0.here hx rfl (pc0 := 19) (pc' := 26) rfl (hb hby d1_19) rfl (feq ((by decide) : ¬ ((4 : Int32) = (2 : Int32)))).2 (by decide) (by decide) k) ?_
    refine Go.st (T' := s₁) (g' := (mkF m 27 #[.val (.int (4 : Int32))] [(.int (4 : Int32))])) (fun _ k => XS.iloadN X0.here hx rfl (hb hby d1_26) rfl k) ?_
    refine Go.st (T' := s₁) (g' := (mkF m 28 #[.val (.int (4 : Int32))] [(.int (3 : Int32)), (.int (4 : Int32))])) (fun _ k => XS.iconst X0.here hx rfl (hb hby d1_27) k) ?_
    refine Go.st (T' := s₁) (g' := (mkF m 35 #[.val (.int (4 : Int32))] [])) (fun _ k => XS.icmpYes X0.here hx rfl (pc0 := 28) (pc' := 35) rfl (hb hby d1_28) rfl (feq ((by decide) : ¬ ((4 : Int32) = (3 : Int32)))).2 (by decide) (by decide) k) ?_
    refine Go.st (T' := s₁) (g' := (mkF m 36 #[.val (.int (4 : Int32))] [(.int (4 : Int32))])) (fun _ k => XS.iloadN X0.here hx rfl (hb hby d1_35) rfl k) ?_
    refine Go.st (T' := s₁) (g' := (mkF m 37 #[.val (.int (4 : Int32))] [(.int (4 : Int32)), (.int (4 : Int32))])) (fun _ k => XS.iconst X0.here hx rfl (hb hby d1_36) k) ?_
    refine Go.st (T' := s₁) (g' := (mkF m 40 #[.val (.int (4 : Int32))] [])) (fun _ k => XS.icmpNo X0.here hx rfl (hb hby d1_37) rfl (teq ((by decide) : (4 : Int32) = (4 : Int32))).2 k) ?_
    obtain ⟨T5, X5, e5, st5⟩ := getS2 X0 hx hZ hown (host := "") (Or.inl (w31 hw)) Via.refl e0 (SS.2.2.2.2.1.ext O0.2) (g := (mkF m 40 #[.val (.int (4 : Int32))] [])) rfl (hb hby d1_40)
    refine Go.st (T' := T5) (g' := (mkF m 43 #[.val (.int (4 : Int32))] [(.ref (A 4))])) (fun _ k => st5 _ k) ?_
    refine Go.retA X5 hx hlk hret rfl rfl (hb hby d1_43) (by decide) (by decide) e5 ?_
    exact ⟨rfl, N0, rfl⟩
  · refine Go.st (T' := s₁) (g' := (mkF m 1 #[.val (.int (5 : Int32))] [(.int (5 : Int32))])) (fun _ k => XS.iloadN X0.here hx rfl (hb hby d1_0) rfl k) ?_
    refine Go.st (T' := s₁) (g' := (mkF m 8 #[.val (.int (5 : Int32))] [])) (fun _ k => XS.ifYes X0.here hx rfl (pc0 := 1) (pc' := 8) rfl (hb hby d1_1) rfl ((if0 _ _).trans (feq ((by decide) : ¬ ((5 : Int32) = (0 : Int32)))).2) (by decide) (by decide) k) ?_
    refine Go.st (T' := s₁) (g' := (mkF m 9 #[.val (.int (5 : Int32))] [(.int (5 : Int32))])) (fun _ k => XS.iloadN X0.here hx rfl (hb hby d1_8) rfl k) ?_
    refine Go.st (T' := s₁) (g' := (mkF m 10 #[.val (.int (5 : Int32))] [(.int (1 : Int32)), (.int (5 : Int32))])) (fun _ k => XS.iconst X0.here hx rfl (hb hby d1_9) k) ?_
    refine Go.st (T' := s₁) (g' := (mkF m 17 #[.val (.int (5 : Int32))] [])) (fun _ k => XS.icmpYes X0.here hx rfl (pc0 := 10) (pc' := 17) rfl (hb hby d1_10) rfl (feq ((by decide) : ¬ ((5 : Int32) = (1 : Int32)))).2 (by decide) (by decide) k) ?_
    refine Go.st (T' := s₁) (g' := (mkF m 18 #[.val (.int (5 : Int32))] [(.int (5 : Int32))])) (fun _ k => XS.iloadN X0.here hx rfl (hb hby d1_17) rfl k) ?_
    refine Go.st (T' := s₁) (g' := (mkF m 19 #[.val (.int (5 : Int32))] [(.int (2 : Int32)), (.int (5 : Int32))])) (fun _ k => XS.iconst X0.here hx rfl (hb hby d1_18) k) ?_
    refine Go.st (T' := s₁) (g' := (mkF m 26 #[.val (.int (5 : Int32))] [])) (fun _ k => XS.icmpYes X0.here hx rfl (pc0 := 19) (pc' := 26) rfl (hb hby d1_19) rfl (feq ((by decide) : ¬ ((5 : Int32) = (2 : Int32)))).2 (by decide) (by decide) k) ?_
    refine Go.st (T' := s₁) (g' := (mkF m 27 #[.val (.int (5 : Int32))] [(.int (5 : Int32))])) (fun _ k => XS.iloadN X0.here hx rfl (hb hby d1_26) rfl k) ?_
    refine Go.st (T' := s₁) (g' := (mkF m 28 #[.val (.int (5 : Int32))] [(.int (3 : Int32)), (.int (5 : Int32))])) (fun _ k => XS.iconst X0.here hx rfl (hb hby d1_27) k) ?_
    refine Go.st (T' := s₁) (g' := (mkF m 35 #[.val (.int (5 : Int32))] [])) (fun _ k => XS.icmpYes X0.here hx rfl (pc0 := 28) (pc' := 35) rfl (hb hby d1_28) rfl (feq ((by decide) : ¬ ((5 : Int32) = (3 : Int32)))).2 (by decide) (by decide) k) ?_
    refine Go.st (T' := s₁) (g' := (mkF m 36 #[.val (.int (5 : Int32))] [(.int (5 : Int32))])) (fun _ k => XS.iloadN X0.here hx rfl (hb hby d1_35) rfl k) ?_
    refine Go.st (T' := s₁) (g' := (mkF m 37 #[.val (.int (5 : Int32))] [(.int (4 : Int32)), (.int (5 : Int32))])) (fun _ k => XS.iconst X0.here hx rfl (hb hby d1_36) k) ?_
    refine Go.st (T' := s₁) (g' := (mkF m 44 #[.val (.int (5 : Int32))] [])) (fun _ k => XS.icmpYes X0.here hx rfl (pc0 := 37) (pc' := 44) rfl (hb hby d1_37) rfl (feq ((by decide) : ¬ ((5 : Int32) = (4 : Int32)))).2 (by decide) (by decide) k) ?_
    refine Go.st (T' := s₁) (g' := (mkF m 45 #[.val (.int (5 : Int32))] [(.int (5 : Int32))])) (fun _ k => XS.iloadN X0.here hx rfl (hb hby d1_44) rfl k) ?_
    refine Go.st (T' := s₁) (g' := (mkF m 46 #[.val (.int (5 : Int32))] [(.int (5 : Int32)), (.int (5 : Int32))])) (fun _ k => XS.iconst X0.here hx rfl (hb hby d1_45) k) ?_
    refine Go.st (T' := s₁) (g' := (mkF m 49 #[.val (.int (5 : Int32))] [])) (fun _ k => XS.icmpNo X0.here hx rfl (hb hby d1_46) rfl (teq ((by decide) : (5 : Int32) = (5 : Int32))).2 k) ?_
    obtain ⟨T6, X6, e6, st6⟩ := getS2 X0 hx hZ hown (host := "") (Or.inl (w33 hw)) Via.refl e0 (SS.2.2.2.2.2.1.ext O0.2) (g := (mkF m 49 #[.val (.int (5 : Int32))] [])) rfl (hb hby d1_49)
    refine Go.st (T' := T6) (g' := (mkF m 52 #[.val (.int (5 : Int32))] [(.ref (A 5))])) (fun _ k => st6 _ k) ?_
    refine Go.retA X6 hx hlk hret rfl rfl (hb hby d1_52) (by decide) (by decide) e6 ?_
    exact ⟨rfl, N0, rfl⟩
  · refine Go.st (T' := s₁) (g' := (mkF m 1 #[.val (.int (6 : Int32))] [(.int (6 : Int32))])) (fun _ k => XS.iloadN X0.here hx rfl (hb hby d1_0) rfl k) ?_
    refine Go.st (T' := s₁) (g' := (mkF m 8 #[.val (.int (6 : Int32))] [])) (fun _ k => XS.ifYes X0.here hx rfl (pc0 := 1) (pc' := 8) rfl (hb hby d1_1) rfl ((if0 _ _).trans (feq ((by decide) : ¬ ((6 : Int32) = (0 : Int32)))).2) (by decide) (by decide) k) ?_
    refine Go.st (T' := s₁) (g' := (mkF m 9 #[.val (.int (6 : Int32))] [(.int (6 : Int32))])) (fun _ k => XS.iloadN X0.here hx rfl (hb hby d1_8) rfl k) ?_
    refine Go.st (T' := s₁) (g' := (mkF m 10 #[.val (.int (6 : Int32))] [(.int (1 : Int32)), (.int (6 : Int32))])) (fun _ k => XS.iconst X0.here hx rfl (hb hby d1_9) k) ?_
    refine Go.st (T' := s₁) (g' := (mkF m 17 #[.val (.int (6 : Int32))] [])) (fun _ k => XS.icmpYes X0.here hx rfl (pc0 := 10) (pc' := 17) rfl (hb hby d1_10) rfl (feq ((by decide) : ¬ ((6 : Int32) = (1 : Int32)))).2 (by decide) (by decide) k) ?_
    refine Go.st (T' := s₁) (g' := (mkF m 18 #[.val (.int (6 : Int32))] [(.int (6 : Int32))])) (fun _ k => XS.iloadN X0.here hx rfl (hb hby d1_17) rfl k) ?_
    refine Go.st (T' := s₁) (g' := (mkF m 19 #[.val (.int (6 : Int32))] [(.int (2 : Int32)), (.int (6 : Int32))])) (fun _ k => XS.iconst X0.here hx rfl (hb hby d1_18) k) ?_
    refine Go.st (T' := s₁) (g' := (mkF m 26 #[.val (.int (6 : Int32))] [])) (fun _ k => XS.icmpYes X0.here hx rfl (pc0 := 19) (pc' := 26) rfl (hb hby d1_19) rfl (feq ((by decide) : ¬ ((6 : Int32) = (2 : Int32)))).2 (by decide) (by decide) k) ?_
    refine Go.st (T' := s₁) (g' := (mkF m 27 #[.val (.int (6 : Int32))] [(.int (6 : Int32))])) (fun _ k => XS.iloadN X0.here hx rfl (hb hby d1_26) rfl k) ?_
    refine Go.st (T' := s₁) (g' := (mkF m 28 #[.val (.int (6 : Int32))] [(.int (3 : Int32)), (.int (6 : Int32))])) (fun _ k => XS.iconst X0.here hx rfl (hb hby d1_27) k) ?_
    refine Go.st (T' := s₁) (g' := (mkF m 35 #[.val (.int (6 : Int32))] [])) (fun _ k => XS.icmpYes X0.here hx rfl (pc0 := 28) (pc' := 35) rfl (hb hby d1_28) rfl (feq ((by decide) : ¬ ((6 : Int32) = (3 : Int32)))).2 (by decide) (by decide) k) ?_
    refine Go.st (T' := s₁) (g' := (mkF m 36 #[.val (.int (6 : Int32))] [(.int (6 : Int32))])) (fun _ k => XS.iloadN X0.here hx rfl (hb hby d1_35) rfl k) ?_
    refine Go.st (T' := s₁) (g' := (mkF m 37 #[.val (.int (6 : Int32))] [(.int (4 : Int32)), (.int (6 : Int32))])) (fun _ k => XS.iconst X0.here hx rfl (hb hby d1_36) k) ?_
    refine Go.st (T' := s₁) (g' := (mkF m 44 #[.val (.int (6 : Int32))] [])) (fun _ k => XS.icmpYes X0.here hx rfl (pc0 := 37) (pc' := 44) rfl (hb hby d1_37) rfl (feq ((by decide) : ¬ ((6 : Int32) = (4 : Int32)))).2 (by decide) (by decide) k) ?_
    refine Go.st (T' := s₁) (g' := (mkF m 45 #[.val (.int (6 : Int32))] [(.int (6 : Int32))])) (fun _ k => XS.iloadN X0.here hx rfl (hb hby d1_44) rfl k) ?_
    refine Go.st (T' := s₁) (g' := (mkF m 46 #[.val (.int (6 : Int32))] [(.int (5 : Int32)), (.int (6 : Int32))])) (fun _ k => XS.iconst X0.here hx rfl (hb hby d1_45) k) ?_
    refine Go.st (T' := s₁) (g' := (mkF m 53 #[.val (.int (6 : Int32))] [])) (fun _ k => XS.icmpYes X0.here hx rfl (pc0 := 46) (pc' := 53) rfl (hb hby d1_46) rfl (feq ((by decide) : ¬ ((6 : Int32) = (5 : Int32)))).2 (by decide) (by decide) k) ?_
    refine Go.st (T' := s₁) (g' := (mkF m 54 #[.val (.int (6 : Int32))] [(.int (6 : Int32))])) (fun _ k => XS.iloadN X0.here hx rfl (hb hby d1_53) rfl k) ?_
    refine Go.st (T' := s₁) (g' := (mkF m 56 #[.val (.int (6 : Int32))] [(.int (6 : Int32)), (.int (6 : Int32))])) (fun _ k => XS.bipush X0.here hx rfl (hb hby d1_54) k) ?_
    refine Go.st (T' := s₁) (g' := (mkF m 59 #[.val (.int (6 : Int32))] [])) (fun _ k => XS.icmpNo X0.here hx rfl (hb hby d1_56) rfl (teq ((by decide) : (6 : Int32) = (6 : Int32))).2 k) ?_
    obtain ⟨T7, X7, e7, st7⟩ := getS2 X0 hx hZ hown (host := "") (Or.inl (w23 hw)) Via.refl e0 (SS.2.2.2.2.2.2.1.ext O0.2) (g := (mkF m 59 #[.val (.int (6 : Int32))] [])) rfl (hb hby d1_59)
    refine Go.st (T' := T7) (g' := (mkF m 62 #[.val (.int (6 : Int32))] [(.ref (A 6))])) (fun _ k => st7 _ k) ?_
    refine Go.retA X7 hx hlk hret rfl rfl (hb hby d1_62) (by decide) (by decide) e7 ?_
    exact ⟨rfl, N0, rfl⟩
  · refine Go.st (T' := s₁) (g' := (mkF m 1 #[.val (.int (7 : Int32))] [(.int (7 : Int32))])) (fun _ k => XS.iloadN X0.here hx rfl (hb hby d1_0) rfl k) ?_
    refine Go.st (T' := s₁) (g' := (mkF m 8 #[.val (.int (7 : Int32))] [])) (fun _ k => XS.ifYes X0.here hx rfl (pc0 := 1) (pc' := 8) rfl (hb hby d1_1) rfl ((if0 _ _).trans (feq ((by decide) : ¬ ((7 : Int32) = (0 : Int32)))).2) (by decide) (by decide) k) ?_
    refine Go.st (T' := s₁) (g' := (mkF m 9 #[.val (.int (7 : Int32))] [(.int (7 : Int32))])) (fun _ k => XS.iloadN X0.here hx rfl (hb hby d1_8) rfl k) ?_
    refine Go.st (T' := s₁) (g' := (mkF m 10 #[.val (.int (7 : Int32))] [(.int (1 : Int32)), (.int (7 : Int32))])) (fun _ k => XS.iconst X0.here hx rfl (hb hby d1_9) k) ?_
    refine Go.st (T' := s₁) (g' := (mkF m 17 #[.val (.int (7 : Int32))] [])) (fun _ k => XS.icmpYes X0.here hx rfl (pc0 := 10) (pc' := 17) rfl (hb hby d1_10) rfl (feq ((by decide) : ¬ ((7 : Int32) = (1 : Int32)))).2 (by decide) (by decide) k) ?_
    refine Go.st (T' := s₁) (g' := (mkF m 18 #[.val (.int (7 : Int32))] [(.int (7 : Int32))])) (fun _ k => XS.iloadN X0.here hx rfl (hb hby d1_17) rfl k) ?_
    refine Go.st (T' := s₁) (g' := (mkF m 19 #[.val (.int (7 : Int32))] [(.int (2 : Int32)), (.int (7 : Int32))])) (fun _ k => XS.iconst X0.here hx rfl (hb hby d1_18) k) ?_
    refine Go.st (T' := s₁) (g' := (mkF m 26 #[.val (.int (7 : Int32))] [])) (fun _ k => XS.icmpYes X0.here hx rfl (pc0 := 19) (pc' := 26) rfl (hb hby d1_19) rfl (feq ((by decide) : ¬ ((7 : Int32) = (2 : Int32)))).2 (by decide) (by decide) k) ?_
    refine Go.st (T' := s₁) (g' := (mkF m 27 #[.val (.int (7 : Int32))] [(.int (7 : Int32))])) (fun _ k => XS.iloadN X0.here hx rfl (hb hby d1_26) rfl k) ?_
    refine Go.st (T' := s₁) (g' := (mkF m 28 #[.val (.int (7 : Int32))] [(.int (3 : Int32)), (.int (7 : Int32))])) (fun _ k => XS.iconst X0.here hx rfl (hb hby d1_27) k) ?_
    refine Go.st (T' := s₁) (g' := (mkF m 35 #[.val (.int (7 : Int32))] [])) (fun _ k => XS.icmpYes X0.here hx rfl (pc0 := 28) (pc' := 35) rfl (hb hby d1_28) rfl (feq ((by decide) : ¬ ((7 : Int32) = (3 : Int32)))).2 (by decide) (by decide) k) ?_
    refine Go.st (T' := s₁) (g' := (mkF m 36 #[.val (.int (7 : Int32))] [(.int (7 : Int32))])) (fun _ k => XS.iloadN X0.here hx rfl (hb hby d1_35) rfl k) ?_
    refine Go.st (T' := s₁) (g' := (mkF m 37 #[.val (.int (7 : Int32))] [(.int (4 : Int32)), (.int (7 : Int32))])) (fun _ k => XS.iconst X0.here hx rfl (hb hby d1_36) k) ?_
    refine Go.st (T' := s₁) (g' := (mkF m 44 #[.val (.int (7 : Int32))] [])) (fun _ k => XS.icmpYes X0.here hx rfl (pc0 := 37) (pc' := 44) rfl (hb hby d1_37) rfl (feq ((by decide) : ¬ ((7 : Int32) = (4 : Int32)))).2 (by decide) (by decide) k) ?_
    refine Go.st (T' := s₁) (g' := (mkF m 45 #[.val (.int (7 : Int32))] [(.int (7 : Int32))])) (fun _ k => XS.iloadN X0.here hx rfl (hb hby d1_44) rfl k) ?_
    refine Go.st (T' := s₁) (g' := (mkF m 46 #[.val (.int (7 : Int32))] [(.int (5 : Int32)), (.int (7 : Int32))])) (fun _ k => XS.iconst X0.here hx rfl (hb hby d1_45) k) ?_
    refine Go.st (T' := s₁) (g' := (mkF m 53 #[.val (.int (7 : Int32))] [])) (fun _ k => XS.icmpYes X0.here hx rfl (pc0 := 46) (pc' := 53) rfl (hb hby d1_46) rfl (feq ((by decide) : ¬ ((7 : Int32) = (5 : Int32)))).2 (by decide) (by decide) k) ?_
    refine Go.st (T' := s₁) (g' := (mkF m 54 #[.val (.int (7 : Int32))] [(.int (7 : Int32))])) (fun _ k => XS.iloadN X0.here hx rfl (hb hby d1_53) rfl k) ?_
    refine Go.st (T' := s₁) (g' := (mkF m 56 #[.val (.int (7 : Int32))] [(.int (6 : Int32)), (.int (7 : Int32))])) (fun _ k => XS.bipush X0.here hx rfl (hb hby d1_54) k) ?_
    refine Go.st (T' := s₁) (g' := (mkF m 63 #[.val (.int (7 : Int32))] [])) (fun _ k => XS.icmpYes X0.here hx rfl (pc0 := 56) (pc' := 63) rfl (hb hby d1_56) rfl (feq ((by decide) : ¬ ((7 : Int32) = (6 : Int32)))).2 (by decide) (by decide) k) ?_
    obtain ⟨T8, X8, e8, st8⟩ := getS2 X0 hx hZ hown (host := "") (Or.inl (w25 hw)) Via.refl e0 (SS.2.2.2.2.2.2.2.ext O0.2) (g := (mkF m 63 #[.val (.int (7 : Int32))] [])) rfl (hb hby d1_63)
    refine Go.st (T' := T8) (g' := (mkF m 66 #[.val (.int (7 : Int32))] [(.ref (A 7))])) (fun _ k => st8 _ k) ?_
    refine Go.retA X8 hx hlk hret rfl rfl (hb hby d1_66) (by decide) (by decide) e8 ?_
    exact ⟨rfl, N0, rfl⟩
theorem own_and7 (x : Int32) : (x &&& 7) = 0 ∨ (x &&& 7) = 1 ∨ (x &&& 7) = 2 ∨ (x &&& 7) = 3 ∨ (x &&& 7) = 4 ∨ (x &&& 7) = 5 ∨ (x &&& 7) = 6 ∨ (x &&& 7) = 7 := by
  have h := c_mask x 7 3 (by decide) (by decide)
  have e : ∀ k : Int32, (x &&& 7).toInt = k.toInt → (x &&& 7) = k := fun k q => Int32.toInt_inj.mp q
  have h2 : (x &&& 7).toInt = 0 ∨ (x &&& 7).toInt = 1 ∨ (x &&& 7).toInt = 2 ∨ (x &&& 7).toInt = 3 ∨ (x &&& 7).toInt = 4 ∨ (x &&& 7).toInt = 5 ∨ (x &&& 7).toInt = 6 ∨ (x &&& 7).toInt = 7 := by omega
  rcases h2 with q | q | q | q | q | q | q | q
  · exact Or.inl (e 0 q)
  · exact Or.inr (Or.inl (e 1 q))
  · exact Or.inr (Or.inr (Or.inl (e 2 q)))
  · exact Or.inr (Or.inr (Or.inr (Or.inl (e 3 q))))
  · exact Or.inr (Or.inr (Or.inr (Or.inr (Or.inl (e 4 q)))))
  · exact Or.inr (Or.inr (Or.inr (Or.inr (Or.inr (Or.inl (e 5 q))))))
  · exact Or.inr (Or.inr (Or.inr (Or.inr (Or.inr (Or.inr (Or.inl (e 6 q)))))))
  · exact Or.inr (Or.inr (Or.inr (Or.inr (Or.inr (Or.inr (Or.inr (e 7 q)))))))
def Exs (Z : State) (A : Nat → Addr) : Prop := Exa Z Z.heap (A 0) "com/example/payment_retry_queue/paymentretryqueue/EntryState" ∧ Exa Z Z.heap (A 1) "com/example/payment_retry_queue/paymentretryqueue/EntryState" ∧ Exa Z Z.heap (A 2) "com/example/payment_retry_queue/paymentretryqueue/EntryState" ∧ Exa Z Z.heap (A 3) "com/example/payment_retry_queue/paymentretryqueue/EntryState" ∧ Exa Z Z.heap (A 4) "com/example/payment_retry_queue/paymentretryqueue/EntryState" ∧ Exa Z Z.heap (A 5) "com/example/payment_retry_queue/paymentretryqueue/EntryState" ∧ Exa Z Z.heap (A 6) "com/example/payment_retry_queue/paymentretryqueue/EntryState" ∧ Exa Z Z.heap (A 7) "com/example/payment_retry_queue/paymentretryqueue/EntryState"
def Fls (Z : State) (A : Nat → Addr) : Prop := Fld Z Z.heap (A 0) "java/lang/Enum" "ordinal" "I" (.int (0 : Int32)) ∧ Fld Z Z.heap (A 1) "java/lang/Enum" "ordinal" "I" (.int (1 : Int32)) ∧ Fld Z Z.heap (A 2) "java/lang/Enum" "ordinal" "I" (.int (2 : Int32)) ∧ Fld Z Z.heap (A 3) "java/lang/Enum" "ordinal" "I" (.int (3 : Int32)) ∧ Fld Z Z.heap (A 4) "java/lang/Enum" "ordinal" "I" (.int (4 : Int32)) ∧ Fld Z Z.heap (A 5) "java/lang/Enum" "ordinal" "I" (.int (5 : Int32)) ∧ Fld Z Z.heap (A 6) "java/lang/Enum" "ordinal" "I" (.int (6 : Int32)) ∧ Fld Z Z.heap (A 7) "java/lang/Enum" "ordinal" "I" (.int (7 : Int32))
theorem w3 {a0 : Array Value} {Z : State} (hw : ∀ d ∈ tables_1, d.before a0 Z = true) : ((Jvm.Cond.code ({ cls := "com/example/payment_retry_queue/paymentretryqueue/EntryStateIsFinalPinLaw", name := "pick", desc := "(I)Lcom/example/payment_retry_queue/paymentretryqueue/EntryState;" } : Jvm.MethodName) method_2_code (1 : Nat) (Option.some (Jvm.ClassFile.FieldType.object "com/example/payment_retry_queue/paymentretryqueue/EntryState")))).before a0 Z = true := hw _ (List.mem_of_getElem? (i := 3) rfl)
theorem w2 {a0 : Array Value} {Z : State} (hw : ∀ d ∈ tables_1, d.before a0 Z = true) : ((Jvm.Cond.initialized "com/example/payment_retry_queue/paymentretryqueue/EntryStateIsFinalPinLaw")).before a0 Z = true := hw _ (List.mem_of_getElem? (i := 2) rfl)
theorem pd4 : parseMethodDescriptor "(I)Lcom/example/payment_retry_queue/paymentretryqueue/EntryState;" = some ⟨[.int], some (.object "com/example/payment_retry_queue/paymentretryqueue/EntryState")⟩ := by decide +kernel
theorem w0 {a0 : Array Value} {Z : State} (hw : ∀ d ∈ tables_1, d.before a0 Z = true) : ((Jvm.Cond.methodLink "com/example/payment_retry_queue/paymentretryqueue/EntryStateIsFinalPinLaw" (34 : Nat) ({ cls := "com/example/payment_retry_queue/paymentretryqueue/EntryStateIsFinalPinLaw", name := "pick", desc := "(I)Lcom/example/payment_retry_queue/paymentretryqueue/EntryState;" } : Jvm.MethodName))).before a0 Z = true := hw _ (List.mem_of_getElem? (i := 0) rfl)
theorem w1 {a0 : Array Value} {Z : State} (hw : ∀ d ∈ tables_1, d.before a0 Z = true) : ((Jvm.Cond.static ({ cls := "com/example/payment_retry_queue/paymentretryqueue/EntryStateIsFinalPinLaw", name := "pick", desc := "(I)Lcom/example/payment_retry_queue/paymentretryqueue/EntryState;" } : Jvm.MethodName))).before a0 Z = true := hw _ (List.mem_of_getElem? (i := 1) rfl)
theorem w11 {a0 : Array Value} {Z : State} (hw : ∀ d ∈ tables_1, d.before a0 Z = true) : ((Jvm.Cond.code ({ cls := "com/example/payment_retry_queue/paymentretryqueue/EntryState", name := "isFinal", desc := "()Z" } : Jvm.MethodName) prog_11_method_5_code (1 : Nat) (Option.some Jvm.ClassFile.FieldType.boolean))).before a0 Z = true := hw _ (List.mem_of_getElem? (i := 11) rfl)
theorem w5 {a0 : Array Value} {Z : State} (hw : ∀ d ∈ tables_1, d.before a0 Z = true) : ((Jvm.Cond.initialized "com/example/payment_retry_queue/paymentretryqueue/EntryState")).before a0 Z = true := hw _ (List.mem_of_getElem? (i := 5) rfl)
theorem pd5 : parseMethodDescriptor "()Z" = some ⟨[], some .boolean⟩ := by decide +kernel
theorem w10 {a0 : Array Value} {Z : State} (hw : ∀ d ∈ tables_1, d.before a0 Z = true) : ((Jvm.Cond.selects "com/example/payment_retry_queue/paymentretryqueue/EntryState" ({ cls := "com/example/payment_retry_queue/paymentretryqueue/EntryState", name := "isFinal", desc := "()Z" } : Jvm.MethodName) ({ cls := "com/example/payment_retry_queue/paymentretryqueue/EntryState", name := "isFinal", desc := "()Z" } : Jvm.MethodName))).before a0 Z = true := hw _ (List.mem_of_getElem? (i := 10) rfl)
theorem w9 {a0 : Array Value} {Z : State} (hw : ∀ d ∈ tables_1, d.before a0 Z = true) : ((Jvm.Cond.instanceMethod ({ cls := "com/example/payment_retry_queue/paymentretryqueue/EntryState", name := "isFinal", desc := "()Z" } : Jvm.MethodName))).before a0 Z = true := hw _ (List.mem_of_getElem? (i := 9) rfl)
theorem w7 {a0 : Array Value} {Z : State} (hw : ∀ d ∈ tables_1, d.before a0 Z = true) : ((Jvm.Cond.methodLink "com/example/payment_retry_queue/paymentretryqueue/EntryStateIsFinalPinLaw" (40 : Nat) ({ cls := "com/example/payment_retry_queue/paymentretryqueue/EntryState", name := "isFinal", desc := "()Z" } : Jvm.MethodName))).before a0 Z = true := hw _ (List.mem_of_getElem? (i := 7) rfl)
theorem w8 {a0 : Array Value} {Z : State} (hw : ∀ d ∈ tables_1, d.before a0 Z = true) : ((Jvm.Cond.declares ({ cls := "com/example/payment_retry_queue/paymentretryqueue/EntryState", name := "isFinal", desc := "()Z" } : Jvm.MethodName))).before a0 Z = true := hw _ (List.mem_of_getElem? (i := 8) rfl)
set_option maxRecDepth 65536 in
set_option maxHeartbeats 40000000 in
theorem rm_law (l : Launch) (Z : State) (a0 : Array Value) (hw : ∀ d ∈ tables_1, d.before a0 Z = true) (ws : List Jvm.Cond) (x0 : Int32) (A : Nat → Addr) (h0 : Heap) (n0 : Nat) (Z0 : n0 ≤ h0.size) (O0 : Old Z n0 h0) (SS : Sts Z A) (EE : Exs Z A) (FF : Fls Z A) :
    Con l Z x code maxLocals ret ws room_1 #[(.int x0)] h0 (fun v h L => v = some (.int 1) ∧ Fr n0 L) := by
  refine Con.enter (plainFor_of_name pn3) ?_
  intro p e s m below meth c s₁ X0 hx hZ hby hml hret hlk hown hnm e0
  have N0 := Fr.nil n0
  refine Go.cast (g' := (mkF m 0 #[.val (.int x0), .unset, .unset, .unset] [])) (by first | rfl | (simp [entryFrame, mkF, argsToLocals, Value.category, maxLocals]; done)) ?_
  refine Go.st (T' := s₁) (g' := (mkF m 1 #[.val (.int x0), .unset, .unset, .unset] [(.int x0)])) (fun _ k => XS.iloadN X0.here hx rfl (hb hby at_0) rfl k) ?_
  refine Go.st (T' := s₁) (g' := (mkF m 3 #[.val (.int x0), .unset, .unset, .unset] [(.int (7 : Int32)), (.int x0)])) (fun _ k => XS.bipush X0.here hx rfl (hb hby at_1) k) ?_
  refine Go.st (T' := s₁) (g' := (mkF m 4 #[.val (.int x0), .unset, .unset, .unset] [(.int (x0 &&& (7 : Int32)))])) (fun _ k => XS.iand X0.here hx rfl (hb hby at_3) rfl k) ?_
  obtain ⟨k, hk⟩ : ∃ k, k = (x0 &&& (7 : Int32)) := ⟨_, rfl⟩
  rw [← hk]
  have hk8 := own_and7 x0
  rw [← hk] at hk8
  rcases hk8 with rfl | rfl | rfl | rfl | rfl | rfl | rfl | rfl
  · refine Go.st (T' := s₁) (g' := (mkF m 5 #[.val (.int x0), .val (.int (0 : Int32)), .unset, .unset] [])) (fun _ k => XS.istoreN X0.here hx rfl (hb hby at_4) rfl (l' := #[.val (.int x0), .val (.int (0 : Int32)), .unset, .unset]) rfl k) ?_
    refine Go.st (T' := s₁) (g' := (mkF m 6 #[.val (.int x0), .val (.int (0 : Int32)), .unset, .unset] [(.int (0 : Int32))])) (fun _ k => XS.iloadN X0.here hx rfl (hb hby at_5) rfl k) ?_
    refine Go.callSt (y := (⟨"com/example/payment_retry_queue/paymentretryqueue/EntryStateIsFinalPinLaw", "pick", "(I)Lcom/example/payment_retry_queue/paymentretryqueue/EntryState;"⟩ : MethodName)) X0 hx hZ hown e0 (w0 hw) (w1 hw) (w2 hw) (w3 hw) (by decide) (argsL := [(.int (0 : Int32))]) (rest := []) (W := 0) (rm_pick l Z a0 hw [] (0 : Int32) (A 0) A h0 n0 Z0 O0 SS (Or.inl ⟨rfl, rfl⟩)) rfl (lenOf pd4 rfl) rfl (by rw [hml]; rfl) rfl (by show 2 * 0 + _ ≤ _; exact Nat.le_of_eq rfl) (by decide) (by decide) (by decide) (by decide) (hb hby at_6) ?_
    intro v1 T1 h1 L1 X1 e1 q1
    obtain ⟨hv1, Nf1, hh1⟩ := q1
    subst hv1
    have E1 : T1.heap = h0 := e1.trans hh1
    have N1 := Fr.app N0 Nf1
    show Go p.tables e below _ T1 (mkF m 9 #[.val (.int x0), .val (.int (0 : Int32)), .unset, .unset] [(.ref (A 0))])
    refine Go.st (T' := T1) (g' := (mkF m 10 #[.val (.int x0), .val (.int (0 : Int32)), .val (.ref (A 0)), .unset] [])) (fun _ k => XS.astoreN X1.here hx rfl (hb hby at_9) rfl rfl (l' := #[.val (.int x0), .val (.int (0 : Int32)), .val (.ref (A 0)), .unset]) rfl k) ?_
    refine Go.st (T' := T1) (g' := (mkF m 11 #[.val (.int x0), .val (.int (0 : Int32)), .val (.ref (A 0)), .unset] [(.int (0 : Int32))])) (fun _ k => XS.iloadN X1.here hx rfl (hb hby at_10) rfl k) ?_
    refine Go.st (T' := T1) (g' := (mkF m 12 #[.val (.int x0), .val (.int (0 : Int32)), .val (.ref (A 0)), .unset] [(.int (4 : Int32)), (.int (0 : Int32))])) (fun _ k => XS.iconst X1.here hx rfl (hb hby at_11) k) ?_
    refine Go.st (T' := T1) (g' := (mkF m 19 #[.val (.int x0), .val (.int (0 : Int32)), .val (.ref (A 0)), .unset] [])) (fun _ k => XS.icmpYes X1.here hx rfl (pc0 := 12) (pc' := 19) rfl (hb hby at_12) rfl (tlt ((by decide) : (0 : Int32) < (4 : Int32))).1 (by decide) (by decide) k) ?_
    refine Go.st (T' := T1) (g' := (mkF m 20 #[.val (.int x0), .val (.int (0 : Int32)), .val (.ref (A 0)), .unset] [(.int (0 : Int32))])) (fun _ k => XS.iconst X1.here hx rfl (hb hby at_19) k) ?_
    refine Go.st (T' := T1) (g' := (mkF m 21 #[.val (.int x0), .val (.int (0 : Int32)), .val (.ref (A 0)), .val (.int (0 : Int32))] [])) (fun _ k => XS.istoreN X1.here hx rfl (hb hby at_20) rfl (l' := #[.val (.int x0), .val (.int (0 : Int32)), .val (.ref (A 0)), .val (.int (0 : Int32))]) rfl k) ?_
    refine Go.st (T' := T1) (g' := (mkF m 22 #[.val (.int x0), .val (.int (0 : Int32)), .val (.ref (A 0)), .val (.int (0 : Int32))] [(.ref (A 0))])) (fun _ k => XS.aloadN X1.here hx rfl (hb hby at_21) rfl rfl k) ?_
    refine Go.callV (y := (⟨"com/example/payment_retry_queue/paymentretryqueue/EntryState", "isFinal", "()Z"⟩ : MethodName)) (z := (⟨"com/example/payment_retry_queue/paymentretryqueue/EntryState", "isFinal", "()Z"⟩ : MethodName)) (C := "com/example/payment_retry_queue/paymentretryqueue/EntryState") (a := (A 0)) X1 hx hZ hown E1 (w7 hw) (w8 hw) (w10 hw) (w9 hw) (w5 hw) (w11 hw) (notFace_of_selects (args := #[]) (mvT hZ (w10 hw))) (by decide) (EE.1.ext O0.2) (argsL := []) (rest := []) (W := 0) (rm_isFinal l Z a0 hw [] (A 0) (0 : Int32) (0 : Int32) h0 n0 Z0 (EE.1.ext O0.2) (FF.1.ext O0.2) (Or.inl ⟨rfl, rfl⟩)) rfl (lenOf pd5 rfl) rfl (by rw [hml]; rfl) rfl (by show 2 * 0 + _ ≤ _; exact Nat.le_of_eq rfl) (by decide) (by decide) (by decide) (by decide) (hb hby at_22) ?_
    intro v2 T2 h2 L2 X2 e2 q2
    obtain ⟨hv2, Nf2, hh2⟩ := q2
    subst hv2
    have E2 : T2.heap = h0 := e2.trans hh2
    have N2 := Fr.app N1 Nf2
    show Go p.tables e below _ T2 (mkF m 25 #[.val (.int x0), .val (.int (0 : Int32)), .val (.ref (A 0)), .val (.int (0 : Int32))] [(.int (0 : Int32))])
    refine Go.st (T' := T2) (g' := (mkF m 26 #[.val (.int x0), .val (.int (0 : Int32)), .val (.ref (A 0)), .val (.int (0 : Int32))] [(.int (0 : Int32)), (.int (0 : Int32))])) (fun _ k => XS.iloadN X2.here hx rfl (hb hby at_25) rfl k) ?_
    refine Go.st (T' := T2) (g' := (mkF m 29 #[.val (.int x0), .val (.int (0 : Int32)), .val (.ref (A 0)), .val (.int (0 : Int32))] [])) (fun _ k => XS.icmpNo X2.here hx rfl (hb hby at_26) rfl (teq ((by decide) : (0 : Int32) = (0 : Int32))).2 k) ?_
    refine Go.st (T' := T2) (g' := (mkF m 30 #[.val (.int x0), .val (.int (0 : Int32)), .val (.ref (A 0)), .val (.int (0 : Int32))] [(.int (1 : Int32))])) (fun _ k => XS.iconst X2.here hx rfl (hb hby at_29) k) ?_
    refine Go.st (T' := T2) (g' := (mkF m 34 #[.val (.int x0), .val (.int (0 : Int32)), .val (.ref (A 0)), .val (.int (0 : Int32))] [(.int (1 : Int32))])) (fun _ k => XS.goto X2.here hx rfl (pc0 := 30) (pc' := 34) rfl (hb hby at_30) (by decide) (by decide) k) ?_
    refine Go.retN X2 hx hlk hret rfl (by simp) (hb hby at_34) (by decide) (by decide) E2 ?_
    exact ⟨rfl, N2⟩
  · refine Go.st (T' := s₁) (g' := (mkF m 5 #[.val (.int x0), .val (.int (1 : Int32)), .unset, .unset] [])) (fun _ k => XS.istoreN X0.here hx rfl (hb hby at_4) rfl (l' := #[.val (.int x0), .val (.int (1 : Int32)), .unset, .unset]) rfl k) ?_
    refine Go.st (T' := s₁) (g' := (mkF m 6 #[.val (.int x0), .val (.int (1 : Int32)), .unset, .unset] [(.int (1 : Int32))])) (fun _ k => XS.iloadN X0.here hx rfl (hb hby at_5) rfl k) ?_
    refine Go.callSt (y := (⟨"com/example/payment_retry_queue/paymentretryqueue/EntryStateIsFinalPinLaw", "pick", "(I)Lcom/example/payment_retry_queue/paymentretryqueue/EntryState;"⟩ : MethodName)) X0 hx hZ hown e0 (w0 hw) (w1 hw) (w2 hw) (w3 hw) (by decide) (argsL := [(.int (1 : Int32))]) (rest := []) (W := 0) (rm_pick l Z a0 hw [] (1 : Int32) (A 1) A h0 n0 Z0 O0 SS (Or.inr (Or.inl ⟨rfl, rfl⟩))) rfl (lenOf pd4 rfl) rfl (by rw [hml]; rfl) rfl (by show 2 * 0 + _ ≤ _; exact Nat.le_of_eq rfl) (by decide) (by decide) (by decide) (by decide) (hb hby at_6) ?_
    intro v3 T3 h3 L3 X3 e3 q3
    obtain ⟨hv3, Nf3, hh3⟩ := q3
    subst hv3
    have E3 : T3.heap = h0 := e3.trans hh3
    have N3 := Fr.app N0 Nf3
    show Go p.tables e below _ T3 (mkF m 9 #[.val (.int x0), .val (.int (1 : Int32)), .unset, .unset] [(.ref (A 1))])
    refine Go.st (T' := T3) (g' := (mkF m 10 #[.val (.int x0), .val (.int (1 : Int32)), .val (.ref (A 1)), .unset] [])) (fun _ k => XS.astoreN X3.here hx rfl (hb hby at_9) rfl rfl (l' := #[.val (.int x0), .val (.int (1 : Int32)), .val (.ref (A 1)), .unset]) rfl k) ?_
    refine Go.st (T' := T3) (g' := (mkF m 11 #[.val (.int x0), .val (.int (1 : Int32)), .val (.ref (A 1)), .unset] [(.int (1 : Int32))])) (fun _ k => XS.iloadN X3.here hx rfl (hb hby at_10) rfl k) ?_
    refine Go.st (T' := T3) (g' := (mkF m 12 #[.val (.int x0), .val (.int (1 : Int32)), .val (.ref (A 1)), .unset] [(.int (4 : Int32)), (.int (1 : Int32))])) (fun _ k => XS.iconst X3.here hx rfl (hb hby at_11) k) ?_
    refine Go.st (T' := T3) (g' := (mkF m 19 #[.val (.int x0), .val (.int (1 : Int32)), .val (.ref (A 1)), .unset] [])) (fun _ k => XS.icmpYes X3.here hx rfl (pc0 := 12) (pc' := 19) rfl (hb hby at_12) rfl (tlt ((by decide) : (1 : Int32) < (4 : Int32))).1 (by decide) (by decide) k) ?_
    refine Go.st (T' := T3) (g' := (mkF m 20 #[.val (.int x0), .val (.int (1 : Int32)), .val (.ref (A 1)), .unset] [(.int (0 : Int32))])) (fun _ k => XS.iconst X3.here hx rfl (hb hby at_19) k) ?_
    refine Go.st (T' := T3) (g' := (mkF m 21 #[.val (.int x0), .val (.int (1 : Int32)), .val (.ref (A 1)), .val (.int (0 : Int32))] [])) (fun _ k => XS.istoreN X3.here hx rfl (hb hby at_20) rfl (l' := #[.val (.int x0), .val (.int (1 : Int32)), .val (.ref (A 1)), .val (.int (0 : Int32))]) rfl k) ?_
    refine Go.st (T' := T3) (g' := (mkF m 22 #[.val (.int x0), .val (.int (1 : Int32)), .val (.ref (A 1)), .val (.int (0 : Int32))] [(.ref (A 1))])) (fun _ k => XS.aloadN X3.here hx rfl (hb hby at_21) rfl rfl k) ?_
    refine Go.callV (y := (⟨"com/example/payment_retry_queue/paymentretryqueue/EntryState", "isFinal", "()Z"⟩ : MethodName)) (z := (⟨"com/example/payment_retry_queue/paymentretryqueue/EntryState", "isFinal", "()Z"⟩ : MethodName)) (C := "com/example/payment_retry_queue/paymentretryqueue/EntryState") (a := (A 1)) X3 hx hZ hown E3 (w7 hw) (w8 hw) (w10 hw) (w9 hw) (w5 hw) (w11 hw) (notFace_of_selects (args := #[]) (mvT hZ (w10 hw))) (by decide) (EE.2.1.ext O0.2) (argsL := []) (rest := []) (W := 0) (rm_isFinal l Z a0 hw [] (A 1) (1 : Int32) (0 : Int32) h0 n0 Z0 (EE.2.1.ext O0.2) (FF.2.1.ext O0.2) (Or.inr (Or.inl ⟨rfl, rfl⟩))) rfl (lenOf pd5 rfl) rfl (by rw [hml]; rfl) rfl (by show 2 * 0 + _ ≤ _; exact Nat.le_of_eq rfl) (by decide) (by decide) (by decide) (by decide) (hb hby at_22) ?_
    intro v4 T4 h4 L4 X4 e4 q4
    obtain ⟨hv4, Nf4, hh4⟩ := q4
    subst hv4
    have E4 : T4.heap = h0 := e4.trans hh4
    have N4 := Fr.app N3 Nf4
    show Go p.tables e below _ T4 (mkF m 25 #[.val (.int x0), .val (.int (1 : Int32)), .val (.ref (A 1)), .val (.int (0 : Int32))] [(.int (0 : Int32))])
    refine Go.st (T' := T4) (g' := (mkF m 26 #[.val (.int x0), .val (.int (1 : Int32)), .val (.ref (A 1)), .val (.int (0 : Int32))] [(.int (0 : Int32)), (.int (0 : Int32))])) (fun _ k => XS.iloadN X4.here hx rfl (hb hby at_25) rfl k) ?_
    refine Go.st (T' := T4) (g' := (mkF m 29 #[.val (.int x0), .val (.int (1 : Int32)), .val (.ref (A 1)), .val (.int (0 : Int32))] [])) (fun _ k => XS.icmpNo X4.here hx rfl (hb hby at_26) rfl (teq ((by decide) : (0 : Int32) = (0 : Int32))).2 k) ?_
    refine Go.st (T' := T4) (g' := (mkF m 30 #[.val (.int x0), .val (.int (1 : Int32)), .val (.ref (A 1)), .val (.int (0 : Int32))] [(.int (1 : Int32))])) (fun _ k => XS.iconst X4.here hx rfl (hb hby at_29) k) ?_
    refine Go.st (T' := T4) (g' := (mkF m 34 #[.val (.int x0), .val (.int (1 : Int32)), .val (.ref (A 1)), .val (.int (0 : Int32))] [(.int (1 : Int32))])) (fun _ k => XS.goto X4.here hx rfl (pc0 := 30) (pc' := 34) rfl (hb hby at_30) (by decide) (by decide) k) ?_
    refine Go.retN X4 hx hlk hret rfl (by simp) (hb hby at_34) (by decide) (by decide) E4 ?_
    exact ⟨rfl, N4⟩
  · refine Go.st (T' := s₁) (g' := (mkF m 5 #[.val (.int x0), .val (.int (2 : Int32)), .unset, .unset] [])) (fun _ k => XS.istoreN X0.here hx rfl (hb hby at_4) rfl (l' := #[.val (.int x0), .val (.int (2 : Int32)), .unset, .unset]) rfl k) ?_
    refine Go.st (T' := s₁) (g' := (mkF m 6 #[.val (.int x0), .val (.int (2 : Int32)), .unset, .unset] [(.int (2 : Int32))])) (fun _ k => XS.iloadN X0.here hx rfl (hb hby at_5) rfl k) ?_
    refine Go.callSt (y := (⟨"com/example/payment_retry_queue/paymentretryqueue/EntryStateIsFinalPinLaw", "pick", "(I)Lcom/example/payment_retry_queue/paymentretryqueue/EntryState;"⟩ : MethodName)) X0 hx hZ hown e0 (w0 hw) (w1 hw) (w2 hw) (w3 hw) (by decide) (argsL := [(.int (2 : Int32))]) (rest := []) (W := 0) (rm_pick l Z a0 hw [] (2 : Int32) (A 2) A h0 n0 Z0 O0 SS (Or.inr (Or.inr (Or.inl ⟨rfl, rfl⟩)))) rfl (lenOf pd4 rfl) rfl (by rw [hml]; rfl) rfl (by show 2 * 0 + _ ≤ _; exact Nat.le_of_eq rfl) (by decide) (by decide) (by decide) (by decide) (hb hby at_6) ?_
    intro v5 T5 h5 L5 X5 e5 q5
    obtain ⟨hv5, Nf5, hh5⟩ := q5
    subst hv5
    have E5 : T5.heap = h0 := e5.trans hh5
    have N5 := Fr.app N0 Nf5
    show Go p.tables e below _ T5 (mkF m 9 #[.val (.int x0), .val (.int (2 : Int32)), .unset, .unset] [(.ref (A 2))])
    refine Go.st (T' := T5) (g' := (mkF m 10 #[.val (.int x0), .val (.int (2 : Int32)), .val (.ref (A 2)), .unset] [])) (fun _ k => XS.astoreN X5.here hx rfl (hb hby at_9) rfl rfl (l' := #[.val (.int x0), .val (.int (2 : Int32)), .val (.ref (A 2)), .unset]) rfl k) ?_
    refine Go.st (T' := T5) (g' := (mkF m 11 #[.val (.int x0), .val (.int (2 : Int32)), .val (.ref (A 2)), .unset] [(.int (2 : Int32))])) (fun _ k => XS.iloadN X5.here hx rfl (hb hby at_10) rfl k) ?_
    refine Go.st (T' := T5) (g' := (mkF m 12 #[.val (.int x0), .val (.int (2 : Int32)), .val (.ref (A 2)), .unset] [(.int (4 : Int32)), (.int (2 : Int32))])) (fun _ k => XS.iconst X5.here hx rfl (hb hby at_11) k) ?_
    refine Go.st (T' := T5) (g' := (mkF m 19 #[.val (.int x0), .val (.int (2 : Int32)), .val (.ref (A 2)), .unset] [])) (fun _ k => XS.icmpYes X5.here hx rfl (pc0 := 12) (pc' := 19) rfl (hb hby at_12) rfl (tlt ((by decide) : (2 : Int32) < (4 : Int32))).1 (by decide) (by decide) k) ?_
    refine Go.st (T' := T5) (g' := (mkF m 20 #[.val (.int x0), .val (.int (2 : Int32)), .val (.ref (A 2)), .unset] [(.int (0 : Int32))])) (fun _ k => XS.iconst X5.here hx rfl (hb hby at_19) k) ?_
    refine Go.st (T' := T5) (g' := (mkF m 21 #[.val (.int x0), .val (.int (2 : Int32)), .val (.ref (A 2)), .val (.int (0 : Int32))] [])) (fun _ k => XS.istoreN X5.here hx rfl (hb hby at_20) rfl (l' := #[.val (.int x0), .val (.int (2 : Int32)), .val (.ref (A 2)), .val (.int (0 : Int32))]) rfl k) ?_
    refine Go.st (T' := T5) (g' := (mkF m 22 #[.val (.int x0), .val (.int (2 : Int32)), .val (.ref (A 2)), .val (.int (0 : Int32))] [(.ref (A 2))])) (fun _ k => XS.aloadN X5.here hx rfl (hb hby at_21) rfl rfl k) ?_
    refine Go.callV (y := (⟨"com/example/payment_retry_queue/paymentretryqueue/EntryState", "isFinal", "()Z"⟩ : MethodName)) (z := (⟨"com/example/payment_retry_queue/paymentretryqueue/EntryState", "isFinal", "()Z"⟩ : MethodName)) (C := "com/example/payment_retry_queue/paymentretryqueue/EntryState") (a := (A 2)) X5 hx hZ hown E5 (w7 hw) (w8 hw) (w10 hw) (w9 hw) (w5 hw) (w11 hw) (notFace_of_selects (args := #[]) (mvT hZ (w10 hw))) (by decide) (EE.2.2.1.ext O0.2) (argsL := []) (rest := []) (W := 0) (rm_isFinal l Z a0 hw [] (A 2) (2 : Int32) (0 : Int32) h0 n0 Z0 (EE.2.2.1.ext O0.2) (FF.2.2.1.ext O0.2) (Or.inr (Or.inr (Or.inl ⟨rfl, rfl⟩)))) rfl (lenOf pd5 rfl) rfl (by rw [hml]; rfl) rfl (by show 2 * 0 + _ ≤ _; exact Nat.le_of_eq rfl) (by decide) (by decide) (by decide) (by decide) (hb hby at_22) ?_
    intro v6 T6 h6 L6 X6 e6 q6
    obtain ⟨hv6, Nf6, hh6⟩ := q6
    subst hv6
    have E6 : T6.heap = h0 := e6.trans hh6
    have N6 := Fr.app N5 Nf6
    show Go p.tables e below _ T6 (mkF m 25 #[.val (.int x0), .val (.int (2 : Int32)), .val (.ref (A 2)), .val (.int (0 : Int32))] [(.int (0 : Int32))])
    refine Go.st (T' := T6) (g' := (mkF m 26 #[.val (.int x0), .val (.int (2 : Int32)), .val (.ref (A 2)), .val (.int (0 : Int32))] [(.int (0 : Int32)), (.int (0 : Int32))])) (fun _ k => XS.iloadN X6.here hx rfl (hb hby at_25) rfl k) ?_
    refine Go.st (T' := T6) (g' := (mkF m 29 #[.val (.int x0), .val (.int (2 : Int32)), .val (.ref (A 2)), .val (.int (0 : Int32))] [])) (fun _ k => XS.icmpNo X6.here hx rfl (hb hby at_26) rfl (teq ((by decide) : (0 : Int32) = (0 : Int32))).2 k) ?_
    refine Go.st (T' := T6) (g' := (mkF m 30 #[.val (.int x0), .val (.int (2 : Int32)), .val (.ref (A 2)), .val (.int (0 : Int32))] [(.int (1 : Int32))])) (fun _ k => XS.iconst X6.here hx rfl (hb hby at_29) k) ?_
    refine Go.st (T' := T6) (g' := (mkF m 34 #[.val (.int x0), .val (.int (2 : Int32)), .val (.ref (A 2)), .val (.int (0 : Int32))] [(.int (1 : Int32))])) (fun _ k => XS.goto X6.here hx rfl (pc0 := 30) (pc' := 34) rfl (hb hby at_30) (by decide) (by decide) k) ?_
    refine Go.retN X6 hx hlk hret rfl (by simp) (hb hby at_34) (by decide) (by decide) E6 ?_
    exact ⟨rfl, N6⟩
  · refine Go.st (T' := s₁) (g' := (mkF m 5 #[.val (.int x0), .val (.int (3 : Int32)), .unset, .unset] [])) (fun _ k => XS.istoreN X0.here hx rfl (hb hby at_4) rfl (l' := #[.val (.int x0), .val (.int (3 : Int32)), .unset, .unset]) rfl k) ?_
    refine Go.st (T' := s₁) (g' := (mkF m 6 #[.val (.int x0), .val (.int (3 : Int32)), .unset, .unset] [(.int (3 : Int32))])) (fun _ k => XS.iloadN X0.here hx rfl (hb hby at_5) rfl k) ?_
    refine Go.callSt (y := (⟨"com/example/payment_retry_queue/paymentretryqueue/EntryStateIsFinalPinLaw", "pick", "(I)Lcom/example/payment_retry_queue/paymentretryqueue/EntryState;"⟩ : MethodName)) X0 hx hZ hown e0 (w0 hw) (w1 hw) (w2 hw) (w3 hw) (by decide) (argsL := [(.int (3 : Int32))]) (rest := []) (W := 0) (rm_pick l Z a0 hw [] (3 : Int32) (A 3) A h0 n0 Z0 O0 SS (Or.inr (Or.inr (Or.inr (Or.inl ⟨rfl, rfl⟩))))) rfl (lenOf pd4 rfl) rfl (by rw [hml]; rfl) rfl (by show 2 * 0 + _ ≤ _; exact Nat.le_of_eq rfl) (by decide) (by decide) (by decide) (by decide) (hb hby at_6) ?_
    intro v7 T7 h7 L7 X7 e7 q7
    obtain ⟨hv7, Nf7, hh7⟩ := q7
    subst hv7
    have E7 : T7.heap = h0 := e7.trans hh7
    have N7 := Fr.app N0 Nf7
    show Go p.tables e below _ T7 (mkF m 9 #[.val (.int x0), .val (.int (3 : Int32)), .unset, .unset] [(.ref (A 3))])
    refine Go.st (T' := T7) (g' := (mkF m 10 #[.val (.int x0), .val (.int (3 : Int32)), .val (.ref (A 3)), .unset] [])) (fun _ k => XS.astoreN X7.here hx rfl (hb hby at_9) rfl rfl (l' := #[.val (.int x0), .val (.int (3 : Int32)), .val (.ref (A 3)), .unset]) rfl k) ?_
    refine Go.st (T' := T7) (g' := (mkF m 11 #[.val (.int x0), .val (.int (3 : Int32)), .val (.ref (A 3)), .unset] [(.int (3 : Int32))])) (fun _ k => XS.iloadN X7.here hx rfl (hb hby at_10) rfl k) ?_
    refine Go.st (T' := T7) (g' := (mkF m 12 #[.val (.int x0), .val (.int (3 : Int32)), .val (.ref (A 3)), .unset] [(.int (4 : Int32)), (.int (3 : Int32))])) (fun _ k => XS.iconst X7.here hx rfl (hb hby at_11) k) ?_
    refine Go.st (T' := T7) (g' := (mkF m 19 #[.val (.int x0), .val (.int (3 : Int32)), .val (.ref (A 3)), .unset] [])) (fun _ k => XS.icmpYes X7.here hx rfl (pc0 := 12) (pc' := 19) rfl (hb hby at_12) rfl (tlt ((by decide) : (3 : Int32) < (4 : Int32))).1 (by decide) (by decide) k) ?_
    refine Go.st (T' := T7) (g' := (mkF m 20 #[.val (.int x0), .val (.int (3 : Int32)), .val (.ref (A 3)), .unset] [(.int (0 : Int32))])) (fun _ k => XS.iconst X7.here hx rfl (hb hby at_19) k) ?_
    refine Go.st (T' := T7) (g' := (mkF m 21 #[.val (.int x0), .val (.int (3 : Int32)), .val (.ref (A 3)), .val (.int (0 : Int32))] [])) (fun _ k => XS.istoreN X7.here hx rfl (hb hby at_20) rfl (l' := #[.val (.int x0), .val (.int (3 : Int32)), .val (.ref (A 3)), .val (.int (0 : Int32))]) rfl k) ?_
    refine Go.st (T' := T7) (g' := (mkF m 22 #[.val (.int x0), .val (.int (3 : Int32)), .val (.ref (A 3)), .val (.int (0 : Int32))] [(.ref (A 3))])) (fun _ k => XS.aloadN X7.here hx rfl (hb hby at_21) rfl rfl k) ?_
    refine Go.callV (y := (⟨"com/example/payment_retry_queue/paymentretryqueue/EntryState", "isFinal", "()Z"⟩ : MethodName)) (z := (⟨"com/example/payment_retry_queue/paymentretryqueue/EntryState", "isFinal", "()Z"⟩ : MethodName)) (C := "com/example/payment_retry_queue/paymentretryqueue/EntryState") (a := (A 3)) X7 hx hZ hown E7 (w7 hw) (w8 hw) (w10 hw) (w9 hw) (w5 hw) (w11 hw) (notFace_of_selects (args := #[]) (mvT hZ (w10 hw))) (by decide) (EE.2.2.2.1.ext O0.2) (argsL := []) (rest := []) (W := 0) (rm_isFinal l Z a0 hw [] (A 3) (3 : Int32) (0 : Int32) h0 n0 Z0 (EE.2.2.2.1.ext O0.2) (FF.2.2.2.1.ext O0.2) (Or.inr (Or.inr (Or.inr (Or.inl ⟨rfl, rfl⟩))))) rfl (lenOf pd5 rfl) rfl (by rw [hml]; rfl) rfl (by show 2 * 0 + _ ≤ _; exact Nat.le_of_eq rfl) (by decide) (by decide) (by decide) (by decide) (hb hby at_22) ?_
    intro v8 T8 h8 L8 X8 e8 q8
    obtain ⟨hv8, Nf8, hh8⟩ := q8
    subst hv8
    have E8 : T8.heap = h0 := e8.trans hh8
    have N8 := Fr.app N7 Nf8
    show Go p.tables e below _ T8 (mkF m 25 #[.val (.int x0), .val (.int (3 : Int32)), .val (.ref (A 3)), .val (.int (0 : Int32))] [(.int (0 : Int32))])
    refine Go.st (T' := T8) (g' := (mkF m 26 #[.val (.int x0), .val (.int (3 : Int32)), .val (.ref (A 3)), .val (.int (0 : Int32))] [(.int (0 : Int32)), (.int (0 : Int32))])) (fun _ k => XS.iloadN X8.here hx rfl (hb hby at_25) rfl k) ?_
    refine Go.st (T' := T8) (g' := (mkF m 29 #[.val (.int x0), .val (.int (3 : Int32)), .val (.ref (A 3)), .val (.int (0 : Int32))] [])) (fun _ k => XS.icmpNo X8.here hx rfl (hb hby at_26) rfl (teq ((by decide) : (0 : Int32) = (0 : Int32))).2 k) ?_
    refine Go.st (T' := T8) (g' := (mkF m 30 #[.val (.int x0), .val (.int (3 : Int32)), .val (.ref (A 3)), .val (.int (0 : Int32))] [(.int (1 : Int32))])) (fun _ k => XS.iconst X8.here hx rfl (hb hby at_29) k) ?_
    refine Go.st (T' := T8) (g' := (mkF m 34 #[.val (.int x0), .val (.int (3 : Int32)), .val (.ref (A 3)), .val (.int (0 : Int32))] [(.int (1 : Int32))])) (fun _ k => XS.goto X8.here hx rfl (pc0 := 30) (pc' := 34) rfl (hb hby at_30) (by decide) (by decide) k) ?_
    refine Go.retN X8 hx hlk hret rfl (by simp) (hb hby at_34) (by decide) (by decide) E8 ?_
    exact ⟨rfl, N8⟩
  · refine Go.st (T' := s₁) (g' := (mkF m 5 #[.val (.int x0), .val (.int (4 : Int32)), .unset, .unset] [])) (fun _ k => XS.istoreN X0.here hx rfl (hb hby at_4) rfl (l' := #[.val (.int x0), .val (.int (4 : Int32)), .unset, .unset]) rfl k) ?_
    refine Go.st (T' := s₁) (g' := (mkF m 6 #[.val (.int x0), .val (.int (4 : Int32)), .unset, .unset] [(.int (4 : Int32))])) (fun _ k => XS.iloadN X0.here hx rfl (hb hby at_5) rfl k) ?_
    refine Go.callSt (y := (⟨"com/example/payment_retry_queue/paymentretryqueue/EntryStateIsFinalPinLaw", "pick", "(I)Lcom/example/payment_retry_queue/paymentretryqueue/EntryState;"⟩ : MethodName)) X0 hx hZ hown e0 (w0 hw) (w1 hw) (w2 hw) (w3 hw) (by decide) (argsL := [(.int (4 : Int32))]) (rest := []) (W := 0) (rm_pick l Z a0 hw [] (4 : Int32) (A 4) A h0 n0 Z0 O0 SS (Or.inr (Or.inr (Or.inr (Or.inr (Or.inl ⟨rfl, rfl⟩)))))) rfl (lenOf pd4 rfl) rfl (by rw [hml]; rfl) rfl (by show 2 * 0 + _ ≤ _; exact Nat.le_of_eq rfl) (by decide) (by decide) (by decide) (by decide) (hb hby at_6) ?_
    intro v9 T9 h9 L9 X9 e9 q9
    obtain ⟨hv9, Nf9, hh9⟩ := q9
    subst hv9
    have E9 : T9.heap = h0 := e9.trans hh9
    have N9 := Fr.app N0 Nf9
    show Go p.tables e below _ T9 (mkF m 9 #[.val (.int x0), .val (.int (4 : Int32)), .unset, .unset] [(.ref (A 4))])
    refine Go.st (T' := T9) (g' := (mkF m 10 #[.val (.int x0), .val (.int (4 : Int32)), .val (.ref (A 4)), .unset] [])) (fun _ k => XS.astoreN X9.here hx rfl (hb hby at_9) rfl rfl (l' := #[.val (.int x0), .val (.int (4 : Int32)), .val (.ref (A 4)), .unset]) rfl k) ?_
    refine Go.st (T' := T9) (g' := (mkF m 11 #[.val (.int x0), .val (.int (4 : Int32)), .val (.ref (A 4)), .unset] [(.int (4 : Int32))])) (fun _ k => XS.iloadN X9.here hx rfl (hb hby at_10) rfl k) ?_
    refine Go.st (T' := T9) (g' := (mkF m 12 #[.val (.int x0), .val (.int (4 : Int32)), .val (.ref (A 4)), .unset] [(.int (4 : Int32)), (.int (4 : Int32))])) (fun _ k => XS.iconst X9.here hx rfl (hb hby at_11) k) ?_
    refine Go.st (T' := T9) (g' := (mkF m 15 #[.val (.int x0), .val (.int (4 : Int32)), .val (.ref (A 4)), .unset] [])) (fun _ k => XS.icmpNo X9.here hx rfl (hb hby at_12) rfl (flt ((by decide) : ¬ ((4 : Int32) < (4 : Int32)))).1 k) ?_
    refine Go.st (T' := T9) (g' := (mkF m 16 #[.val (.int x0), .val (.int (4 : Int32)), .val (.ref (A 4)), .unset] [(.int (1 : Int32))])) (fun _ k => XS.iconst X9.here hx rfl (hb hby at_15) k) ?_
    refine Go.st (T' := T9) (g' := (mkF m 20 #[.val (.int x0), .val (.int (4 : Int32)), .val (.ref (A 4)), .unset] [(.int (1 : Int32))])) (fun _ k => XS.goto X9.here hx rfl (pc0 := 16) (pc' := 20) rfl (hb hby at_16) (by decide) (by decide) k) ?_
    refine Go.st (T' := T9) (g' := (mkF m 21 #[.val (.int x0), .val (.int (4 : Int32)), .val (.ref (A 4)), .val (.int (1 : Int32))] [])) (fun _ k => XS.istoreN X9.here hx rfl (hb hby at_20) rfl (l' := #[.val (.int x0), .val (.int (4 : Int32)), .val (.ref (A 4)), .val (.int (1 : Int32))]) rfl k) ?_
    refine Go.st (T' := T9) (g' := (mkF m 22 #[.val (.int x0), .val (.int (4 : Int32)), .val (.ref (A 4)), .val (.int (1 : Int32))] [(.ref (A 4))])) (fun _ k => XS.aloadN X9.here hx rfl (hb hby at_21) rfl rfl k) ?_
    refine Go.callV (y := (⟨"com/example/payment_retry_queue/paymentretryqueue/EntryState", "isFinal", "()Z"⟩ : MethodName)) (z := (⟨"com/example/payment_retry_queue/paymentretryqueue/EntryState", "isFinal", "()Z"⟩ : MethodName)) (C := "com/example/payment_retry_queue/paymentretryqueue/EntryState") (a := (A 4)) X9 hx hZ hown E9 (w7 hw) (w8 hw) (w10 hw) (w9 hw) (w5 hw) (w11 hw) (notFace_of_selects (args := #[]) (mvT hZ (w10 hw))) (by decide) (EE.2.2.2.2.1.ext O0.2) (argsL := []) (rest := []) (W := 0) (rm_isFinal l Z a0 hw [] (A 4) (4 : Int32) (1 : Int32) h0 n0 Z0 (EE.2.2.2.2.1.ext O0.2) (FF.2.2.2.2.1.ext O0.2) (Or.inr (Or.inr (Or.inr (Or.inr (Or.inl ⟨rfl, rfl⟩)))))) rfl (lenOf pd5 rfl) rfl (by rw [hml]; rfl) rfl (by show 2 * 0 + _ ≤ _; exact Nat.le_of_eq rfl) (by decide) (by decide) (by decide) (by decide) (hb hby at_22) ?_
    intro v10 T10 h10 L10 X10 e10 q10
    obtain ⟨hv10, Nf10, hh10⟩ := q10
    subst hv10
    have E10 : T10.heap = h0 := e10.trans hh10
    have N10 := Fr.app N9 Nf10
    show Go p.tables e below _ T10 (mkF m 25 #[.val (.int x0), .val (.int (4 : Int32)), .val (.ref (A 4)), .val (.int (1 : Int32))] [(.int (1 : Int32))])
    refine Go.st (T' := T10) (g' := (mkF m 26 #[.val (.int x0), .val (.int (4 : Int32)), .val (.ref (A 4)), .val (.int (1 : Int32))] [(.int (1 : Int32)), (.int (1 : Int32))])) (fun _ k => XS.iloadN X10.here hx rfl (hb hby at_25) rfl k) ?_
    refine Go.st (T' := T10) (g' := (mkF m 29 #[.val (.int x0), .val (.int (4 : Int32)), .val (.ref (A 4)), .val (.int (1 : Int32))] [])) (fun _ k => XS.icmpNo X10.here hx rfl (hb hby at_26) rfl (teq ((by decide) : (1 : Int32) = (1 : Int32))).2 k) ?_
    refine Go.st (T' := T10) (g' := (mkF m 30 #[.val (.int x0), .val (.int (4 : Int32)), .val (.ref (A 4)), .val (.int (1 : Int32))] [(.int (1 : Int32))])) (fun _ k => XS.iconst X10.here hx rfl (hb hby at_29) k) ?_
    refine Go.st (T' := T10) (g' := (mkF m 34 #[.val (.int x0), .val (.int (4 : Int32)), .val (.ref (A 4)), .val (.int (1 : Int32))] [(.int (1 : Int32))])) (fun _ k => XS.goto X10.here hx rfl (pc0 := 30) (pc' := 34) rfl (hb hby at_30) (by decide) (by decide) k) ?_
    refine Go.retN X10 hx hlk hret rfl (by simp) (hb hby at_34) (by decide) (by decide) E10 ?_
    exact ⟨rfl, N10⟩
  · refine Go.st (T' := s₁) (g' := (mkF m 5 #[.val (.int x0), .val (.int (5 : Int32)), .unset, .unset] [])) (fun _ k => XS.istoreN X0.here hx rfl (hb hby at_4) rfl (l' := #[.val (.int x0), .val (.int (5 : Int32)), .unset, .unset]) rfl k) ?_
    refine Go.st (T' := s₁) (g' := (mkF m 6 #[.val (.int x0), .val (.int (5 : Int32)), .unset, .unset] [(.int (5 : Int32))])) (fun _ k => XS.iloadN X0.here hx rfl (hb hby at_5) rfl k) ?_
    refine Go.callSt (y := (⟨"com/example/payment_retry_queue/paymentretryqueue/EntryStateIsFinalPinLaw", "pick", "(I)Lcom/example/payment_retry_queue/paymentretryqueue/EntryState;"⟩ : MethodName)) X0 hx hZ hown e0 (w0 hw) (w1 hw) (w2 hw) (w3 hw) (by decide) (argsL := [(.int (5 : Int32))]) (rest := []) (W := 0) (rm_pick l Z a0 hw [] (5 : Int32) (A 5) A h0 n0 Z0 O0 SS (Or.inr (Or.inr (Or.inr (Or.inr (Or.inr (Or.inl ⟨rfl, rfl⟩))))))) rfl (lenOf pd4 rfl) rfl (by rw [hml]; rfl) rfl (by show 2 * 0 + _ ≤ _; exact Nat.le_of_eq rfl) (by decide) (by decide) (by decide) (by decide) (hb hby at_6) ?_
    intro v11 T11 h11 L11 X11 e11 q11
    obtain ⟨hv11, Nf11, hh11⟩ := q11
    subst hv11
    have E11 : T11.heap = h0 := e11.trans hh11
    have N11 := Fr.app N0 Nf11
    show Go p.tables e below _ T11 (mkF m 9 #[.val (.int x0), .val (.int (5 : Int32)), .unset, .unset] [(.ref (A 5))])
    refine Go.st (T' := T11) (g' := (mkF m 10 #[.val (.int x0), .val (.int (5 : Int32)), .val (.ref (A 5)), .unset] [])) (fun _ k => XS.astoreN X11.here hx rfl (hb hby at_9) rfl rfl (l' := #[.val (.int x0), .val (.int (5 : Int32)), .val (.ref (A 5)), .unset]) rfl k) ?_
    refine Go.st (T' := T11) (g' := (mkF m 11 #[.val (.int x0), .val (.int (5 : Int32)), .val (.ref (A 5)), .unset] [(.int (5 : Int32))])) (fun _ k => XS.iloadN X11.here hx rfl (hb hby at_10) rfl k) ?_
    refine Go.st (T' := T11) (g' := (mkF m 12 #[.val (.int x0), .val (.int (5 : Int32)), .val (.ref (A 5)), .unset] [(.int (4 : Int32)), (.int (5 : Int32))])) (fun _ k => XS.iconst X11.here hx rfl (hb hby at_11) k) ?_
    refine Go.st (T' := T11) (g' := (mkF m 15 #[.val (.int x0), .val (.int (5 : Int32)), .val (.ref (A 5)), .unset] [])) (fun _ k => XS.icmpNo X11.here hx rfl (hb hby at_12) rfl (flt ((by decide) : ¬ ((5 : Int32) < (4 : Int32)))).1 k) ?_
    refine Go.st (T' := T11) (g' := (mkF m 16 #[.val (.int x0), .val (.int (5 : Int32)), .val (.ref (A 5)), .unset] [(.int (1 : Int32))])) (fun _ k => XS.iconst X11.here hx rfl (hb hby at_15) k) ?_
    refine Go.st (T' := T11) (g' := (mkF m 20 #[.val (.int x0), .val (.int (5 : Int32)), .val (.ref (A 5)), .unset] [(.int (1 : Int32))])) (fun _ k => XS.goto X11.here hx rfl (pc0 := 16) (pc' := 20) rfl (hb hby at_16) (by decide) (by decide) k) ?_
    refine Go.st (T' := T11) (g' := (mkF m 21 #[.val (.int x0), .val (.int (5 : Int32)), .val (.ref (A 5)), .val (.int (1 : Int32))] [])) (fun _ k => XS.istoreN X11.here hx rfl (hb hby at_20) rfl (l' := #[.val (.int x0), .val (.int (5 : Int32)), .val (.ref (A 5)), .val (.int (1 : Int32))]) rfl k) ?_
    refine Go.st (T' := T11) (g' := (mkF m 22 #[.val (.int x0), .val (.int (5 : Int32)), .val (.ref (A 5)), .val (.int (1 : Int32))] [(.ref (A 5))])) (fun _ k => XS.aloadN X11.here hx rfl (hb hby at_21) rfl rfl k) ?_
    refine Go.callV (y := (⟨"com/example/payment_retry_queue/paymentretryqueue/EntryState", "isFinal", "()Z"⟩ : MethodName)) (z := (⟨"com/example/payment_retry_queue/paymentretryqueue/EntryState", "isFinal", "()Z"⟩ : MethodName)) (C := "com/example/payment_retry_queue/paymentretryqueue/EntryState") (a := (A 5)) X11 hx hZ hown E11 (w7 hw) (w8 hw) (w10 hw) (w9 hw) (w5 hw) (w11 hw) (notFace_of_selects (args := #[]) (mvT hZ (w10 hw))) (by decide) (EE.2.2.2.2.2.1.ext O0.2) (argsL := []) (rest := []) (W := 0) (rm_isFinal l Z a0 hw [] (A 5) (5 : Int32) (1 : Int32) h0 n0 Z0 (EE.2.2.2.2.2.1.ext O0.2) (FF.2.2.2.2.2.1.ext O0.2) (Or.inr (Or.inr (Or.inr (Or.inr (Or.inr (Or.inl ⟨rfl, rfl⟩))))))) rfl (lenOf pd5 rfl) rfl (by rw [hml]; rfl) rfl (by show 2 * 0 + _ ≤ _; exact Nat.le_of_eq rfl) (by decide) (by decide) (by decide) (by decide) (hb hby at_22) ?_
    intro v12 T12 h12 L12 X12 e12 q12
    obtain ⟨hv12, Nf12, hh12⟩ := q12
    subst hv12
    have E12 : T12.heap = h0 := e12.trans hh12
    have N12 := Fr.app N11 Nf12
    show Go p.tables e below _ T12 (mkF m 25 #[.val (.int x0), .val (.int (5 : Int32)), .val (.ref (A 5)), .val (.int (1 : Int32))] [(.int (1 : Int32))])
    refine Go.st (T' := T12) (g' := (mkF m 26 #[.val (.int x0), .val (.int (5 : Int32)), .val (.ref (A 5)), .val (.int (1 : Int32))] [(.int (1 : Int32)), (.int (1 : Int32))])) (fun _ k => XS.iloadN X12.here hx rfl (hb hby at_25) rfl k) ?_
    refine Go.st (T' := T12) (g' := (mkF m 29 #[.val (.int x0), .val (.int (5 : Int32)), .val (.ref (A 5)), .val (.int (1 : Int32))] [])) (fun _ k => XS.icmpNo X12.here hx rfl (hb hby at_26) rfl (teq ((by decide) : (1 : Int32) = (1 : Int32))).2 k) ?_
    refine Go.st (T' := T12) (g' := (mkF m 30 #[.val (.int x0), .val (.int (5 : Int32)), .val (.ref (A 5)), .val (.int (1 : Int32))] [(.int (1 : Int32))])) (fun _ k => XS.iconst X12.here hx rfl (hb hby at_29) k) ?_
    refine Go.st (T' := T12) (g' := (mkF m 34 #[.val (.int x0), .val (.int (5 : Int32)), .val (.ref (A 5)), .val (.int (1 : Int32))] [(.int (1 : Int32))])) (fun _ k => XS.goto X12.here hx rfl (pc0 := 30) (pc' := 34) rfl (hb hby at_30) (by decide) (by decide) k) ?_
    refine Go.retN X12 hx hlk hret rfl (by simp) (hb hby at_34) (by decide) (by decide) E12 ?_
    exact ⟨rfl, N12⟩
  · refine Go.st (T' := s₁) (g' := (mkF m 5 #[.val (.int x0), .val (.int (6 : Int32)), .unset, .unset] [])) (fun _ k => XS.istoreN X0.here hx rfl (hb hby at_4) rfl (l' := #[.val (.int x0), .val (.int (6 : Int32)), .unset, .unset]) rfl k) ?_
    refine Go.st (T' := s₁) (g' := (mkF m 6 #[.val (.int x0), .val (.int (6 : Int32)), .unset, .unset] [(.int (6 : Int32))])) (fun _ k => XS.iloadN X0.here hx rfl (hb hby at_5) rfl k) ?_
    refine Go.callSt (y := (⟨"com/example/payment_retry_queue/paymentretryqueue/EntryStateIsFinalPinLaw", "pick", "(I)Lcom/example/payment_retry_queue/paymentretryqueue/EntryState;"⟩ : MethodName)) X0 hx hZ hown e0 (w0 hw) (w1 hw) (w2 hw) (w3 hw) (by decide) (argsL := [(.int (6 : Int32))]) (rest := []) (W := 0) (rm_pick l Z a0 hw [] (6 : Int32) (A 6) A h0 n0 Z0 O0 SS (Or.inr (Or.inr (Or.inr (Or.inr (Or.inr (Or.inr (Or.inl ⟨rfl, rfl⟩)))))))) rfl (lenOf pd4 rfl) rfl (by rw [hml]; rfl) rfl (by show 2 * 0 + _ ≤ _; exact Nat.le_of_eq rfl) (by decide) (by decide) (by decide) (by decide) (hb hby at_6) ?_
    intro v13 T13 h13 L13 X13 e13 q13
    obtain ⟨hv13, Nf13, hh13⟩ := q13
    subst hv13
    have E13 : T13.heap = h0 := e13.trans hh13
    have N13 := Fr.app N0 Nf13
    show Go p.tables e below _ T13 (mkF m 9 #[.val (.int x0), .val (.int (6 : Int32)), .unset, .unset] [(.ref (A 6))])
    refine Go.st (T' := T13) (g' := (mkF m 10 #[.val (.int x0), .val (.int (6 : Int32)), .val (.ref (A 6)), .unset] [])) (fun _ k => XS.astoreN X13.here hx rfl (hb hby at_9) rfl rfl (l' := #[.val (.int x0), .val (.int (6 : Int32)), .val (.ref (A 6)), .unset]) rfl k) ?_
    refine Go.st (T' := T13) (g' := (mkF m 11 #[.val (.int x0), .val (.int (6 : Int32)), .val (.ref (A 6)), .unset] [(.int (6 : Int32))])) (fun _ k => XS.iloadN X13.here hx rfl (hb hby at_10) rfl k) ?_
    refine Go.st (T' := T13) (g' := (mkF m 12 #[.val (.int x0), .val (.int (6 : Int32)), .val (.ref (A 6)), .unset] [(.int (4 : Int32)), (.int (6 : Int32))])) (fun _ k => XS.iconst X13.here hx rfl (hb hby at_11) k) ?_
    refine Go.st (T' := T13) (g' := (mkF m 15 #[.val (.int x0), .val (.int (6 : Int32)), .val (.ref (A 6)), .unset] [])) (fun _ k => XS.icmpNo X13.here hx rfl (hb hby at_12) rfl (flt ((by decide) : ¬ ((6 : Int32) < (4 : Int32)))).1 k) ?_
    refine Go.st (T' := T13) (g' := (mkF m 16 #[.val (.int x0), .val (.int (6 : Int32)), .val (.ref (A 6)), .unset] [(.int (1 : Int32))])) (fun _ k => XS.iconst X13.here hx rfl (hb hby at_15) k) ?_
    refine Go.st (T' := T13) (g' := (mkF m 20 #[.val (.int x0), .val (.int (6 : Int32)), .val (.ref (A 6)), .unset] [(.int (1 : Int32))])) (fun _ k => XS.goto X13.here hx rfl (pc0 := 16) (pc' := 20) rfl (hb hby at_16) (by decide) (by decide) k) ?_
    refine Go.st (T' := T13) (g' := (mkF m 21 #[.val (.int x0), .val (.int (6 : Int32)), .val (.ref (A 6)), .val (.int (1 : Int32))] [])) (fun _ k => XS.istoreN X13.here hx rfl (hb hby at_20) rfl (l' := #[.val (.int x0), .val (.int (6 : Int32)), .val (.ref (A 6)), .val (.int (1 : Int32))]) rfl k) ?_
    refine Go.st (T' := T13) (g' := (mkF m 22 #[.val (.int x0), .val (.int (6 : Int32)), .val (.ref (A 6)), .val (.int (1 : Int32))] [(.ref (A 6))])) (fun _ k => XS.aloadN X13.here hx rfl (hb hby at_21) rfl rfl k) ?_
    refine Go.callV (y := (⟨"com/example/payment_retry_queue/paymentretryqueue/EntryState", "isFinal", "()Z"⟩ : MethodName)) (z := (⟨"com/example/payment_retry_queue/paymentretryqueue/EntryState", "isFinal", "()Z"⟩ : MethodName)) (C := "com/example/payment_retry_queue/paymentretryqueue/EntryState") (a := (A 6)) X13 hx hZ hown E13 (w7 hw) (w8 hw) (w10 hw) (w9 hw) (w5 hw) (w11 hw) (notFace_of_selects (args := #[]) (mvT hZ (w10 hw))) (by decide) (EE.2.2.2.2.2.2.1.ext O0.2) (argsL := []) (rest := []) (W := 0) (rm_isFinal l Z a0 hw [] (A 6) (6 : Int32) (1 : Int32) h0 n0 Z0 (EE.2.2.2.2.2.2.1.ext O0.2) (FF.2.2.2.2.2.2.1.ext O0.2) (Or.inr (Or.inr (Or.inr (Or.inr (Or.inr (Or.inr (Or.inl ⟨rfl, rfl⟩)))))))) rfl (lenOf pd5 rfl) rfl (by rw [hml]; rfl) rfl (by show 2 * 0 + _ ≤ _; exact Nat.le_of_eq rfl) (by decide) (by decide) (by decide) (by decide) (hb hby at_22) ?_
    intro v14 T14 h14 L14 X14 e14 q14
    obtain ⟨hv14, Nf14, hh14⟩ := q14
    subst hv14
    have E14 : T14.heap = h0 := e14.trans hh14
    have N14 := Fr.app N13 Nf14
    show Go p.tables e below _ T14 (mkF m 25 #[.val (.int x0), .val (.int (6 : Int32)), .val (.ref (A 6)), .val (.int (1 : Int32))] [(.int (1 : Int32))])
    refine Go.st (T' := T14) (g' := (mkF m 26 #[.val (.int x0), .val (.int (6 : Int32)), .val (.ref (A 6)), .val (.int (1 : Int32))] [(.int (1 : Int32)), (.int (1 : Int32))])) (fun _ k => XS.iloadN X14.here hx rfl (hb hby at_25) rfl k) ?_
    refine Go.st (T' := T14) (g' := (mkF m 29 #[.val (.int x0), .val (.int (6 : Int32)), .val (.ref (A 6)), .val (.int (1 : Int32))] [])) (fun _ k => XS.icmpNo X14.here hx rfl (hb hby at_26) rfl (teq ((by decide) : (1 : Int32) = (1 : Int32))).2 k) ?_
    refine Go.st (T' := T14) (g' := (mkF m 30 #[.val (.int x0), .val (.int (6 : Int32)), .val (.ref (A 6)), .val (.int (1 : Int32))] [(.int (1 : Int32))])) (fun _ k => XS.iconst X14.here hx rfl (hb hby at_29) k) ?_
    refine Go.st (T' := T14) (g' := (mkF m 34 #[.val (.int x0), .val (.int (6 : Int32)), .val (.ref (A 6)), .val (.int (1 : Int32))] [(.int (1 : Int32))])) (fun _ k => XS.goto X14.here hx rfl (pc0 := 30) (pc' := 34) rfl (hb hby at_30) (by decide) (by decide) k) ?_
    refine Go.retN X14 hx hlk hret rfl (by simp) (hb hby at_34) (by decide) (by decide) E14 ?_
    exact ⟨rfl, N14⟩
  · refine Go.st (T' := s₁) (g' := (mkF m 5 #[.val (.int x0), .val (.int (7 : Int32)), .unset, .unset] [])) (fun _ k => XS.istoreN X0.here hx rfl (hb hby at_4) rfl (l' := #[.val (.int x0), .val (.int (7 : Int32)), .unset, .unset]) rfl k) ?_
    refine Go.st (T' := s₁) (g' := (mkF m 6 #[.val (.int x0), .val (.int (7 : Int32)), .unset, .unset] [(.int (7 : Int32))])) (fun _ k => XS.iloadN X0.here hx rfl (hb hby at_5) rfl k) ?_
    refine Go.callSt (y := (⟨"com/example/payment_retry_queue/paymentretryqueue/EntryStateIsFinalPinLaw", "pick", "(I)Lcom/example/payment_retry_queue/paymentretryqueue/EntryState;"⟩ : MethodName)) X0 hx hZ hown e0 (w0 hw) (w1 hw) (w2 hw) (w3 hw) (by decide) (argsL := [(.int (7 : Int32))]) (rest := []) (W := 0) (rm_pick l Z a0 hw [] (7 : Int32) (A 7) A h0 n0 Z0 O0 SS (Or.inr (Or.inr (Or.inr (Or.inr (Or.inr (Or.inr (Or.inr ⟨rfl, rfl⟩)))))))) rfl (lenOf pd4 rfl) rfl (by rw [hml]; rfl) rfl (by show 2 * 0 + _ ≤ _; exact Nat.le_of_eq rfl) (by decide) (by decide) (by decide) (by decide) (hb hby at_6) ?_
    intro v15 T15 h15 L15 X15 e15 q15
    obtain ⟨hv15, Nf15, hh15⟩ := q15
    subst hv15
    have E15 : T15.heap = h0 := e15.trans hh15
    have N15 := Fr.app N0 Nf15
    show Go p.tables e below _ T15 (mkF m 9 #[.val (.int x0), .val (.int (7 : Int32)), .unset, .unset] [(.ref (A 7))])
    refine Go.st (T' := T15) (g' := (mkF m 10 #[.val (.int x0), .val (.int (7 : Int32)), .val (.ref (A 7)), .unset] [])) (fun _ k => XS.astoreN X15.here hx rfl (hb hby at_9) rfl rfl (l' := #[.val (.int x0), .val (.int (7 : Int32)), .val (.ref (A 7)), .unset]) rfl k) ?_
    refine Go.st (T' := T15) (g' := (mkF m 11 #[.val (.int x0), .val (.int (7 : Int32)), .val (.ref (A 7)), .unset] [(.int (7 : Int32))])) (fun _ k => XS.iloadN X15.here hx rfl (hb hby at_10) rfl k) ?_
    refine Go.st (T' := T15) (g' := (mkF m 12 #[.val (.int x0), .val (.int (7 : Int32)), .val (.ref (A 7)), .unset] [(.int (4 : Int32)), (.int (7 : Int32))])) (fun _ k => XS.iconst X15.here hx rfl (hb hby at_11) k) ?_
    refine Go.st (T' := T15) (g' := (mkF m 15 #[.val (.int x0), .val (.int (7 : Int32)), .val (.ref (A 7)), .unset] [])) (fun _ k => XS.icmpNo X15.here hx rfl (hb hby at_12) rfl (flt ((by decide) : ¬ ((7 : Int32) < (4 : Int32)))).1 k) ?_
    refine Go.st (T' := T15) (g' := (mkF m 16 #[.val (.int x0), .val (.int (7 : Int32)), .val (.ref (A 7)), .unset] [(.int (1 : Int32))])) (fun _ k => XS.iconst X15.here hx rfl (hb hby at_15) k) ?_
    refine Go.st (T' := T15) (g' := (mkF m 20 #[.val (.int x0), .val (.int (7 : Int32)), .val (.ref (A 7)), .unset] [(.int (1 : Int32))])) (fun _ k => XS.goto X15.here hx rfl (pc0 := 16) (pc' := 20) rfl (hb hby at_16) (by decide) (by decide) k) ?_
    refine Go.st (T' := T15) (g' := (mkF m 21 #[.val (.int x0), .val (.int (7 : Int32)), .val (.ref (A 7)), .val (.int (1 : Int32))] [])) (fun _ k => XS.istoreN X15.here hx rfl (hb hby at_20) rfl (l' := #[.val (.int x0), .val (.int (7 : Int32)), .val (.ref (A 7)), .val (.int (1 : Int32))]) rfl k) ?_
    refine Go.st (T' := T15) (g' := (mkF m 22 #[.val (.int x0), .val (.int (7 : Int32)), .val (.ref (A 7)), .val (.int (1 : Int32))] [(.ref (A 7))])) (fun _ k => XS.aloadN X15.here hx rfl (hb hby at_21) rfl rfl k) ?_
    refine Go.callV (y := (⟨"com/example/payment_retry_queue/paymentretryqueue/EntryState", "isFinal", "()Z"⟩ : MethodName)) (z := (⟨"com/example/payment_retry_queue/paymentretryqueue/EntryState", "isFinal", "()Z"⟩ : MethodName)) (C := "com/example/payment_retry_queue/paymentretryqueue/EntryState") (a := (A 7)) X15 hx hZ hown E15 (w7 hw) (w8 hw) (w10 hw) (w9 hw) (w5 hw) (w11 hw) (notFace_of_selects (args := #[]) (mvT hZ (w10 hw))) (by decide) (EE.2.2.2.2.2.2.2.ext O0.2) (argsL := []) (rest := []) (W := 0) (rm_isFinal l Z a0 hw [] (A 7) (7 : Int32) (1 : Int32) h0 n0 Z0 (EE.2.2.2.2.2.2.2.ext O0.2) (FF.2.2.2.2.2.2.2.ext O0.2) (Or.inr (Or.inr (Or.inr (Or.inr (Or.inr (Or.inr (Or.inr ⟨rfl, rfl⟩)))))))) rfl (lenOf pd5 rfl) rfl (by rw [hml]; rfl) rfl (by show 2 * 0 + _ ≤ _; exact Nat.le_of_eq rfl) (by decide) (by decide) (by decide) (by decide) (hb hby at_22) ?_
    intro v16 T16 h16 L16 X16 e16 q16
    obtain ⟨hv16, Nf16, hh16⟩ := q16
    subst hv16
    have E16 : T16.heap = h0 := e16.trans hh16
    have N16 := Fr.app N15 Nf16
    show Go p.tables e below _ T16 (mkF m 25 #[.val (.int x0), .val (.int (7 : Int32)), .val (.ref (A 7)), .val (.int (1 : Int32))] [(.int (1 : Int32))])
    refine Go.st (T' := T16) (g' := (mkF m 26 #[.val (.int x0), .val (.int (7 : Int32)), .val (.ref (A 7)), .val (.int (1 : Int32))] [(.int (1 : Int32)), (.int (1 : Int32))])) (fun _ k => XS.iloadN X16.here hx rfl (hb hby at_25) rfl k) ?_
    refine Go.st (T' := T16) (g' := (mkF m 29 #[.val (.int x0), .val (.int (7 : Int32)), .val (.ref (A 7)), .val (.int (1 : Int32))] [])) (fun _ k => XS.icmpNo X16.here hx rfl (hb hby at_26) rfl (teq ((by decide) : (1 : Int32) = (1 : Int32))).2 k) ?_
    refine Go.st (T' := T16) (g' := (mkF m 30 #[.val (.int x0), .val (.int (7 : Int32)), .val (.ref (A 7)), .val (.int (1 : Int32))] [(.int (1 : Int32))])) (fun _ k => XS.iconst X16.here hx rfl (hb hby at_29) k) ?_
    refine Go.st (T' := T16) (g' := (mkF m 34 #[.val (.int x0), .val (.int (7 : Int32)), .val (.ref (A 7)), .val (.int (1 : Int32))] [(.int (1 : Int32))])) (fun _ k => XS.goto X16.here hx rfl (pc0 := 30) (pc' := 34) rfl (hb hby at_30) (by decide) (by decide) k) ?_
    refine Go.retN X16 hx hlk hret rfl (by simp) (hb hby at_34) (by decide) (by decide) E16 ?_
    exact ⟨rfl, N16⟩
theorem w6 {a0 : Array Value} {Z : State} (hw : ∀ d ∈ tables_1, d.before a0 Z = true) : ((Jvm.Cond.laysStatic "com/example/payment_retry_queue/paymentretryqueue/EntryState" "WAITING" "Lcom/example/payment_retry_queue/paymentretryqueue/EntryState;")).before a0 Z = true := hw _ (List.mem_of_getElem? (i := 6) rfl)
theorem w22 {a0 : Array Value} {Z : State} (hw : ∀ d ∈ tables_1, d.before a0 Z = true) : ((Jvm.Cond.laysStatic "com/example/payment_retry_queue/paymentretryqueue/EntryState" "COMPENSATING" "Lcom/example/payment_retry_queue/paymentretryqueue/EntryState;")).before a0 Z = true := hw _ (List.mem_of_getElem? (i := 22) rfl)
theorem w24 {a0 : Array Value} {Z : State} (hw : ∀ d ∈ tables_1, d.before a0 Z = true) : ((Jvm.Cond.laysStatic "com/example/payment_retry_queue/paymentretryqueue/EntryState" "COMPENSATED" "Lcom/example/payment_retry_queue/paymentretryqueue/EntryState;")).before a0 Z = true := hw _ (List.mem_of_getElem? (i := 24) rfl)
theorem w26 {a0 : Array Value} {Z : State} (hw : ∀ d ∈ tables_1, d.before a0 Z = true) : ((Jvm.Cond.laysStatic "com/example/payment_retry_queue/paymentretryqueue/EntryState" "DEAD_LETTERED" "Lcom/example/payment_retry_queue/paymentretryqueue/EntryState;")).before a0 Z = true := hw _ (List.mem_of_getElem? (i := 26) rfl)
theorem w28 {a0 : Array Value} {Z : State} (hw : ∀ d ∈ tables_1, d.before a0 Z = true) : ((Jvm.Cond.laysStatic "com/example/payment_retry_queue/paymentretryqueue/EntryState" "UNCERTAIN" "Lcom/example/payment_retry_queue/paymentretryqueue/EntryState;")).before a0 Z = true := hw _ (List.mem_of_getElem? (i := 28) rfl)
theorem w30 {a0 : Array Value} {Z : State} (hw : ∀ d ∈ tables_1, d.before a0 Z = true) : ((Jvm.Cond.laysStatic "com/example/payment_retry_queue/paymentretryqueue/EntryState" "IN_FLIGHT" "Lcom/example/payment_retry_queue/paymentretryqueue/EntryState;")).before a0 Z = true := hw _ (List.mem_of_getElem? (i := 30) rfl)
theorem w32 {a0 : Array Value} {Z : State} (hw : ∀ d ∈ tables_1, d.before a0 Z = true) : ((Jvm.Cond.laysStatic "com/example/payment_retry_queue/paymentretryqueue/EntryState" "SUCCEEDED" "Lcom/example/payment_retry_queue/paymentretryqueue/EntryState;")).before a0 Z = true := hw _ (List.mem_of_getElem? (i := 32) rfl)
theorem w34 {a0 : Array Value} {Z : State} (hw : ∀ d ∈ tables_1, d.before a0 Z = true) : ((Jvm.Cond.laysStatic "com/example/payment_retry_queue/paymentretryqueue/EntryState" "FAILED" "Lcom/example/payment_retry_queue/paymentretryqueue/EntryState;")).before a0 Z = true := hw _ (List.mem_of_getElem? (i := 34) rfl)
set_option maxRecDepth 65536 in
set_option maxHeartbeats 40000000 in
theorem comes_1 {Post : Tables → Env → Array Value → State → Outcome → State → Prop} (hpost : ∀ tb e args s v u, (limb_1_1.after args s (.returned v) u = true ∧ limb_1_2.after args s (.returned v) u = true ∧ True) → FrameEnd s (.returned v) u (Jvm.fieldLocs frame_1_writes args s ++ Jvm.arrayLocs frame_1_arrays args s ++ Jvm.staticLocs frame_1_statics s) 0 0 → Post tb e args s (.returned v) u) :
    ArmFor flags0 classFile x code maxLocals ret World_1 tables_1 room_1 Calls_1 rest_1 Pre_1 Post := by
  intro l hfl _ _ p e ha hc hk s m args below hf hA hF happ hP
  obtain ⟨hcalls, hrest, hpre⟩ := hP
  obtain ⟨-, -, -, hnamed, -, -, -, hat⟩ := (Spec.applies_iff hf).mp happ
  obtain ⟨hg, hn⟩ := and_e (Cond.before_iff.mp (show (Jvm.Cond.and given_1 narrow_1).before args s = true from hpre))
  obtain ⟨g0a, g0b⟩ := and_e hg
  obtain ⟨w0', rfl⟩ : ∃ w0' : Value, args = #[w0'] := by
    have hs : args.size = 1 := by simpa [Cond.value, given_1] using g0a
    obtain ⟨L⟩ := args
    match L, hs with
    | [w0'], _ => exact ⟨w0', rfl⟩
  have hw := fun d (hd : d ∈ tables_1) => atoms_spec (ws := Jvm.Cond.code x code maxLocals ret :: tables_1) hat d (List.mem_cons_of_mem _ hd)
  have hfit : Fit s := fun {y c} hc i hi => by
    obtain ⟨ha, rfl⟩ := Array.getElem?_eq_some_iff.mp hc
    have q := List.all_eq_true.mp ((Array.all_eq_true_iff_forall_mem.mp hF) _ (Array.getElem_mem ha)) i (List.mem_range.mpr hi)
    simpa [Array.getElem?_eq_getElem hi] using q
  obtain ⟨i0, ei0⟩ := is_v g0b
  obtain rfl : w0' = (.int i0) := Option.some.inj ei0
  obtain ⟨c0a, c0b⟩ := and_e hn
  obtain ⟨c1a, c1b⟩ := and_e c0b
  obtain ⟨c2a, c2b⟩ := and_e c1b
  obtain ⟨c3a, c3b⟩ := and_e c2b
  obtain ⟨c4a, c4b⟩ := and_e c3b
  obtain ⟨c5a, c5b⟩ := and_e c4b
  obtain ⟨c6a, c6b⟩ := and_e c5b
  obtain ⟨c7a, c7b⟩ := and_e c6b
  obtain ⟨c8a, c8b⟩ := and_e c7b
  obtain ⟨c9a, c9b⟩ := and_e c8b
  obtain ⟨c10a, c10b⟩ := and_e c9b
  obtain ⟨c11a, c11b⟩ := and_e c10b
  obtain ⟨c12a, c12b⟩ := and_e c11b
  obtain ⟨c13a, c13b⟩ := and_e c12b
  obtain ⟨c14a, c14b⟩ := and_e c13b
  obtain ⟨sa0, ev0⟩ := exa_v c0a
  have sE0 : Exa s s.heap sa0 "com/example/payment_retry_queue/paymentretryqueue/EntryState" := Exa.start ev0 c0a
  have sS0 : Sta s s.heap "com/example/payment_retry_queue/paymentretryqueue/EntryState" "WAITING" "Lcom/example/payment_retry_queue/paymentretryqueue/EntryState;" (.ref sa0) := Sta.start ev0 (Or.inr ⟨(w5 hw), (w6 hw)⟩)
  obtain ⟨sa1, ev1⟩ := exa_v c2a
  have sE1 : Exa s s.heap sa1 "com/example/payment_retry_queue/paymentretryqueue/EntryState" := Exa.start ev1 c2a
  have sS1 : Sta s s.heap "com/example/payment_retry_queue/paymentretryqueue/EntryState" "COMPENSATING" "Lcom/example/payment_retry_queue/paymentretryqueue/EntryState;" (.ref sa1) := Sta.start ev1 (Or.inr ⟨(w5 hw), (w22 hw)⟩)
  obtain ⟨sa2, ev2⟩ := exa_v c4a
  have sE2 : Exa s s.heap sa2 "com/example/payment_retry_queue/paymentretryqueue/EntryState" := Exa.start ev2 c4a
  have sS2 : Sta s s.heap "com/example/payment_retry_queue/paymentretryqueue/EntryState" "COMPENSATED" "Lcom/example/payment_retry_queue/paymentretryqueue/EntryState;" (.ref sa2) := Sta.start ev2 (Or.inr ⟨(w5 hw), (w24 hw)⟩)
  obtain ⟨sa3, ev3⟩ := exa_v c6a
  have sE3 : Exa s s.heap sa3 "com/example/payment_retry_queue/paymentretryqueue/EntryState" := Exa.start ev3 c6a
  have sS3 : Sta s s.heap "com/example/payment_retry_queue/paymentretryqueue/EntryState" "DEAD_LETTERED" "Lcom/example/payment_retry_queue/paymentretryqueue/EntryState;" (.ref sa3) := Sta.start ev3 (Or.inr ⟨(w5 hw), (w26 hw)⟩)
  obtain ⟨sa4, ev4⟩ := exa_v c8a
  have sE4 : Exa s s.heap sa4 "com/example/payment_retry_queue/paymentretryqueue/EntryState" := Exa.start ev4 c8a
  have sS4 : Sta s s.heap "com/example/payment_retry_queue/paymentretryqueue/EntryState" "UNCERTAIN" "Lcom/example/payment_retry_queue/paymentretryqueue/EntryState;" (.ref sa4) := Sta.start ev4 (Or.inr ⟨(w5 hw), (w28 hw)⟩)
  obtain ⟨sa5, ev5⟩ := exa_v c10a
  have sE5 : Exa s s.heap sa5 "com/example/payment_retry_queue/paymentretryqueue/EntryState" := Exa.start ev5 c10a
  have sS5 : Sta s s.heap "com/example/payment_retry_queue/paymentretryqueue/EntryState" "IN_FLIGHT" "Lcom/example/payment_retry_queue/paymentretryqueue/EntryState;" (.ref sa5) := Sta.start ev5 (Or.inr ⟨(w5 hw), (w30 hw)⟩)
  obtain ⟨sa6, ev6⟩ := exa_v c12a
  have sE6 : Exa s s.heap sa6 "com/example/payment_retry_queue/paymentretryqueue/EntryState" := Exa.start ev6 c12a
  have sS6 : Sta s s.heap "com/example/payment_retry_queue/paymentretryqueue/EntryState" "SUCCEEDED" "Lcom/example/payment_retry_queue/paymentretryqueue/EntryState;" (.ref sa6) := Sta.start ev6 (Or.inr ⟨(w5 hw), (w32 hw)⟩)
  obtain ⟨sa7, ev7⟩ := exa_v c14a
  have sE7 : Exa s s.heap sa7 "com/example/payment_retry_queue/paymentretryqueue/EntryState" := Exa.start ev7 c14a
  have sS7 : Sta s s.heap "com/example/payment_retry_queue/paymentretryqueue/EntryState" "FAILED" "Lcom/example/payment_retry_queue/paymentretryqueue/EntryState;" (.ref sa7) := Sta.start ev7 (Or.inr ⟨(w5 hw), (w34 hw)⟩)
  have sF0 : Fld s s.heap sa0 "java/lang/Enum" "ordinal" "I" (.int (0 : Int32)) := Fld.start ((fld_at ev0).symm.trans (eqv_i rfl c1a))
  have sF1 : Fld s s.heap sa1 "java/lang/Enum" "ordinal" "I" (.int (3 : Int32)) := Fld.start ((fld_at ev1).symm.trans (eqv_i rfl c3a))
  have sF2 : Fld s s.heap sa2 "java/lang/Enum" "ordinal" "I" (.int (6 : Int32)) := Fld.start ((fld_at ev2).symm.trans (eqv_i rfl c5a))
  have sF3 : Fld s s.heap sa3 "java/lang/Enum" "ordinal" "I" (.int (7 : Int32)) := Fld.start ((fld_at ev3).symm.trans (eqv_i rfl c7a))
  have sF4 : Fld s s.heap sa4 "java/lang/Enum" "ordinal" "I" (.int (2 : Int32)) := Fld.start ((fld_at ev4).symm.trans (eqv_i rfl c9a))
  have sF5 : Fld s s.heap sa5 "java/lang/Enum" "ordinal" "I" (.int (1 : Int32)) := Fld.start ((fld_at ev5).symm.trans (eqv_i rfl c11a))
  have sF6 : Fld s s.heap sa6 "java/lang/Enum" "ordinal" "I" (.int (4 : Int32)) := Fld.start ((fld_at ev6).symm.trans (eqv_i rfl c13a))
  have sF7 : Fld s s.heap sa7 "java/lang/Enum" "ordinal" "I" (.int (5 : Int32)) := Fld.start ((fld_at ev7).symm.trans (eqv_i rfl c14b))
  obtain ⟨n, o, h1, h2, h3, _, L, rfl, ⟨rfl, N⟩, hq⟩ := rm_law l s _ hw tables_1 i0 (fun i => ([sa0, sa5, sa4, sa1, sa6, sa7, sa2, sa3] : List Addr).getD i 0) s.heap s.heap.size (Nat.le_refl _) (Old.start s) ⟨sS0, sS5, sS4, sS1, sS6, sS7, sS2, sS3⟩ ⟨sE0, sE5, sE4, sE1, sE6, sE7, sE2, sE3⟩ ⟨sF0, sF5, sF4, sF1, sF6, sF7, sF2, sF3⟩ p e ha hc hk s m _ below hf ((Spec.applies_iff_loose hf).mp happ).1 ⟨rfl, State.Warmed39.refl s, rfl⟩ trivial
  exact ⟨n, _, h1, h2, h3, hpost _ _ _ _ _ _ ⟨Cond.after_iff.mpr rfl, Cond.after_iff.mpr (eq_i res_at (Term.int_eval (1)) rfl), trivial⟩ ⟨hq.1, hq.2.1, (hq.2.2.sift fun y hy => Or.inr (N y hy)).mono (by decide) (by decide)⟩⟩
theorem main_1_1 : Claimed_1_1 := comes_1 fun _ _ _ _ _ _ h hF => ⟨h.1, hF⟩
theorem main_1_2 : Claimed_1_2 := comes_1 fun _ _ _ _ _ _ h hF => ⟨h.2.1, hF⟩
end Jvm.Pilot.@@N@@
namespace Jvm.Pilot.@@N@@
open Jvm Jvm.ClassFile Sem Op Lib Jvm.Free Jvm.Stand Jvm.Pilot.@@N@@.Jvm.D
/-! MADE BY PROGRAM (witnessworld.py) out of the Statement's table words and the real class files: 12 classes; the members and pool entries that the words name. The judged class is class 1, her method 2. -/
namespace start1
open Jvm.ClassFile
def u (s : String) : CpInfo := .utf8 (stringToUtf16 s)
/-- a pool by its gaps: so many unusable entries, then the entry; so many at the end -/
def gap : Nat → List CpInfo → List CpInfo
  | 0, r => r
  | n + 1, r => .unusable :: gap n r
def poolList (es : List (Nat × CpInfo)) (last : Nat) : List CpInfo := es.foldr (fun e r => gap e.1 (e.2 :: r)) (gap last [])
def pool (es : List (Nat × CpInfo)) (last : Nat) : Array CpInfo := ⟨poolList es last⟩
def fileOf (pool : Array CpInfo) (this : Nat) (attrs : Array Attribute := #[]) (ms : Array MethodInfo := #[]) (fl : Nat := 33) (sup : Nat := 0) (ifs : Array Nat := #[]) (fds : Array FieldInfo := #[]) : ClassFile where
  minorVersion := 0
  majorVersion := 65
  constantPool := pool
  accessFlags := fl
  thisClass := this
  superClass := sup
  interfaces := ifs
  fields := fds
  methods := ms
  attributes := attrs
def plain (name : String) (sup : Option ClassId) : Class where
  name := name
  kind := .ordinary
  loader := none
  accessFlags := 33
  super := sup
  interfaces := #[]
  cf := none
  fields := #[]
  methods := #[]
  instanceTypes := #[]
  staticTypes := #[]
  resolved := #[]
  callSites := []
  init := .initialized
  statics := none
  mirror := none

def pool0 : Array CpInfo := pool [(5, u "<init>"), (0, u "()V"), (1, .class_ 10), (1, u "java/lang/Object")] 113

def k0m0 : Method := { name := "<init>", desc := "()V", sig := { parameters := [], returnType := none }, accessFlags := 1, code := none }
/-- java/lang/Object -/
def k0 : Class := { plain "java/lang/Object" none with
  accessFlags := 33
  interfaces := #[]
  cf := some (fileOf pool0 8 #[] #[{ accessFlags := 1, nameIndex := 5, descriptorIndex := 6, attributes := #[] }] 33 0 #[] #[])
  fields := #[]
  methods := #[k0m0]
  instanceTypes := #[]
  staticTypes := #[]
  resolved := Array.replicate 124 none
  statics := none }

def pool1 : Array CpInfo := pool [(2, .class_ 4), (1, u "java/lang/Object"), (0, u "<init>"), (0, u "()V"), (0, .fieldref 8 9), (0, .class_ 10), (0, .nameAndType 11 12), (0, u "com/example/payment_retry_queue/paymentretryqueue/EntryState"), (0, u "WAITING"), (0, u "Lcom/example/payment_retry_queue/paymentretryqueue/EntryState;"), (0, .fieldref 8 14), (0, .nameAndType 15 12), (0, u "IN_FLIGHT"), (0, .fieldref 8 17), (0, .nameAndType 18 12), (0, u "UNCERTAIN"), (0, .fieldref 8 20), (0, .nameAndType 21 12), (0, u "COMPENSATING"), (0, .fieldref 8 23), (0, .nameAndType 24 12), (0, u "SUCCEEDED"), (0, .fieldref 8 26), (0, .nameAndType 27 12), (0, u "FAILED"), (0, .fieldref 8 29), (0, .nameAndType 30 12), (0, u "COMPENSATED"), (0, .fieldref 8 32), (0, .nameAndType 33 12), (0, u "DEAD_LETTERED"), (0, .methodref 35 36), (0, .class_ 37), (0, .nameAndType 38 39), (0, u "com/example/payment_retry_queue/paymentretryqueue/EntryStateIsFinalPinLaw"), (0, u "pick"), (0, u "(I)Lcom/example/payment_retry_queue/paymentretryqueue/EntryState;"), (0, .methodref 8 41), (0, .nameAndType 42 43), (0, u "isFinal"), (0, u "()Z"), (3, u "law"), (0, u "(I)Z")] 2

def k1m0 : Method := { name := "<init>", desc := "()V", sig := { parameters := [], returnType := none }, accessFlags := 2, code := none }
def k1c1 : Code := { maxStack := 2, maxLocals := 1, code := method_2_code, exceptionTable := #[], attributes := #[] }
def k1m1 : Method := { name := "pick", desc := "(I)Lcom/example/payment_retry_queue/paymentretryqueue/EntryState;", sig := { parameters := [.int], returnType := some (.object "com/example/payment_retry_queue/paymentretryqueue/EntryState") }, accessFlags := 10, code := some k1c1 }
def k1c2 : Code := { maxStack := 2, maxLocals := 4, code := code, exceptionTable := #[], attributes := #[] }
def k1m2 : Method := { name := "law", desc := "(I)Z", sig := { parameters := [.int], returnType := some .boolean }, accessFlags := 9, code := some k1c2 }
/-- com/example/payment_retry_queue/paymentretryqueue/EntryStateIsFinalPinLaw -/
def k1 : Class := { plain "com/example/payment_retry_queue/paymentretryqueue/EntryStateIsFinalPinLaw" (some 0) with
  accessFlags := 49
  interfaces := #[]
  cf := some (fileOf pool1 35 #[] #[{ accessFlags := 2, nameIndex := 5, descriptorIndex := 6, attributes := #[] }, { accessFlags := 10, nameIndex := 38, descriptorIndex := 39, attributes := #[] }, { accessFlags := 9, nameIndex := 47, descriptorIndex := 48, attributes := #[] }] 49 2 #[] #[])
  fields := #[]
  methods := #[k1m0, k1m1, k1m2]
  instanceTypes := #[]
  staticTypes := #[]
  resolved := Array.replicate 51 none
  statics := none }

def pool2 : Array CpInfo := pool [(1, .class_ 2), (0, u "java/lang/constant/Constable"), (0, .class_ 4), (0, u "java/lang/Object")] 6

/-- java/lang/constant/Constable -/
def k2 : Class := { plain "java/lang/constant/Constable" (some 0) with
  accessFlags := 1537
  interfaces := #[]
  cf := some (fileOf pool2 1 #[] #[] 1537 3 #[] #[])
  fields := #[]
  methods := #[]
  instanceTypes := #[]
  staticTypes := #[]
  resolved := Array.replicate 11 none
  statics := none }

def pool3 : Array CpInfo := pool [(1, .class_ 2), (0, u "java/lang/Comparable"), (0, .class_ 4), (0, u "java/lang/Object")] 7

/-- java/lang/Comparable -/
def k3 : Class := { plain "java/lang/Comparable" (some 0) with
  accessFlags := 1537
  interfaces := #[]
  cf := some (fileOf pool3 1 #[] #[] 1537 3 #[] #[])
  fields := #[]
  methods := #[]
  instanceTypes := #[]
  staticTypes := #[]
  resolved := Array.replicate 12 none
  statics := none }

def pool4 : Array CpInfo := pool [(1, .class_ 2), (0, u "java/io/Serializable"), (0, .class_ 4), (0, u "java/lang/Object")] 2

/-- java/io/Serializable -/
def k4 : Class := { plain "java/io/Serializable" (some 0) with
  accessFlags := 1537
  interfaces := #[]
  cf := some (fileOf pool4 1 #[] #[] 1537 3 #[] #[])
  fields := #[]
  methods := #[]
  instanceTypes := #[]
  staticTypes := #[]
  resolved := Array.replicate 7 none
  statics := none }

def pool5 : Array CpInfo := pool [(2, .class_ 4), (1, u "java/lang/Enum"), (0, u "name"), (0, u "Ljava/lang/String;"), (0, .fieldref 2 8), (0, .nameAndType 9 10), (0, u "ordinal"), (0, u "I"), (1, .class_ 14), (1, u "java/lang/Object"), (4, u "hash"), (86, .class_ 108), (1, u "java/lang/Enum$EnumDesc"), (2, .class_ 112), (0, u "java/lang/constant/Constable"), (0, .class_ 114), (0, u "java/lang/Comparable"), (0, .class_ 116), (0, u "java/io/Serializable"), (9, u "()I")] 77

def k5c0 : Code := { maxStack := 1, maxLocals := 1, code := jdk_37_method_2_code, exceptionTable := #[], attributes := #[] }
def k5m0 : Method := { name := "ordinal", desc := "()I", sig := { parameters := [], returnType := some .int }, accessFlags := 17, code := some k5c0 }
/-- java/lang/Enum -/
def k5 : Class := { plain "java/lang/Enum" (some 0) with
  accessFlags := 1057
  interfaces := #[2, 3, 4]
  cf := some (fileOf pool5 2 #[.nestMembers #[106]] #[{ accessFlags := 17, nameIndex := 9, descriptorIndex := 126, attributes := #[] }] 1057 12 #[111, 113, 115] #[{ accessFlags := 18, nameIndex := 5, descriptorIndex := 6, attributes := #[] }, { accessFlags := 18, nameIndex := 9, descriptorIndex := 10, attributes := #[] }, { accessFlags := 2, nameIndex := 19, descriptorIndex := 10, attributes := #[] }])
  fields := #[{ name := "name", type := (.object "java/lang/String"), accessFlags := 18, slot := 0, constantValue := 0 }, { name := "ordinal", type := .int, accessFlags := 18, slot := 1, constantValue := 0 }, { name := "hash", type := .int, accessFlags := 2, slot := 2, constantValue := 0 }]
  methods := #[k5m0]
  instanceTypes := #[(.object "java/lang/String"), .int, .int]
  staticTypes := #[]
  resolved := Array.replicate 204 none
  statics := none }

def pool6 : Array CpInfo := pool [(1, .class_ 2), (0, u "com/example/payment_retry_queue/paymentretryqueue/EntryState"), (2, u "WAITING"), (0, u "Lcom/example/payment_retry_queue/paymentretryqueue/EntryState;"), (2, u "IN_FLIGHT"), (2, u "UNCERTAIN"), (2, u "COMPENSATING"), (2, u "SUCCEEDED"), (2, u "FAILED"), (2, u "COMPENSATED"), (2, u "DEAD_LETTERED"), (2, u "$VALUES"), (0, u "[Lcom/example/payment_retry_queue/paymentretryqueue/EntryState;"), (6, .class_ 40), (1, u "java/lang/Enum"), (22, .methodref 1 64), (0, .nameAndType 65 66), (0, u "ordinal"), (0, u "()I"), (43, u "isFinal"), (0, u "()Z")] 21

def k6c0 : Code := { maxStack := 4, maxLocals := 1, code := prog_11_method_5_code, exceptionTable := #[], attributes := #[] }
def k6m0 : Method := { name := "isFinal", desc := "()Z", sig := { parameters := [], returnType := some .boolean }, accessFlags := 1, code := some k6c0 }
/-- com/example/payment_retry_queue/paymentretryqueue/EntryState -/
def k6 : Class := { plain "com/example/payment_retry_queue/paymentretryqueue/EntryState" (some 5) with
  accessFlags := 16433
  interfaces := #[]
  cf := some (fileOf pool6 1 #[] #[{ accessFlags := 1, nameIndex := 110, descriptorIndex := 111, attributes := #[] }] 16433 38 #[] #[{ accessFlags := 16409, nameIndex := 5, descriptorIndex := 6, attributes := #[] }, { accessFlags := 16409, nameIndex := 9, descriptorIndex := 6, attributes := #[] }, { accessFlags := 16409, nameIndex := 12, descriptorIndex := 6, attributes := #[] }, { accessFlags := 16409, nameIndex := 15, descriptorIndex := 6, attributes := #[] }, { accessFlags := 16409, nameIndex := 18, descriptorIndex := 6, attributes := #[] }, { accessFlags := 16409, nameIndex := 21, descriptorIndex := 6, attributes := #[] }, { accessFlags := 16409, nameIndex := 24, descriptorIndex := 6, attributes := #[] }, { accessFlags := 16409, nameIndex := 27, descriptorIndex := 6, attributes := #[] }, { accessFlags := 4122, nameIndex := 30, descriptorIndex := 31, attributes := #[] }])
  fields := #[{ name := "WAITING", type := (.object "com/example/payment_retry_queue/paymentretryqueue/EntryState"), accessFlags := 16409, slot := 0, constantValue := 0 }, { name := "IN_FLIGHT", type := (.object "com/example/payment_retry_queue/paymentretryqueue/EntryState"), accessFlags := 16409, slot := 1, constantValue := 0 }, { name := "UNCERTAIN", type := (.object "com/example/payment_retry_queue/paymentretryqueue/EntryState"), accessFlags := 16409, slot := 2, constantValue := 0 }, { name := "COMPENSATING", type := (.object "com/example/payment_retry_queue/paymentretryqueue/EntryState"), accessFlags := 16409, slot := 3, constantValue := 0 }, { name := "SUCCEEDED", type := (.object "com/example/payment_retry_queue/paymentretryqueue/EntryState"), accessFlags := 16409, slot := 4, constantValue := 0 }, { name := "FAILED", type := (.object "com/example/payment_retry_queue/paymentretryqueue/EntryState"), accessFlags := 16409, slot := 5, constantValue := 0 }, { name := "COMPENSATED", type := (.object "com/example/payment_retry_queue/paymentretryqueue/EntryState"), accessFlags := 16409, slot := 6, constantValue := 0 }, { name := "DEAD_LETTERED", type := (.object "com/example/payment_retry_queue/paymentretryqueue/EntryState"), accessFlags := 16409, slot := 7, constantValue := 0 }, { name := "$VALUES", type := (.array (.object "com/example/payment_retry_queue/paymentretryqueue/EntryState")), accessFlags := 4122, slot := 8, constantValue := 0 }]
  methods := #[k6m0]
  instanceTypes := #[(.object "java/lang/String"), .int, .int]
  staticTypes := #[(.object "com/example/payment_retry_queue/paymentretryqueue/EntryState"), (.object "com/example/payment_retry_queue/paymentretryqueue/EntryState"), (.object "com/example/payment_retry_queue/paymentretryqueue/EntryState"), (.object "com/example/payment_retry_queue/paymentretryqueue/EntryState"), (.object "com/example/payment_retry_queue/paymentretryqueue/EntryState"), (.object "com/example/payment_retry_queue/paymentretryqueue/EntryState"), (.object "com/example/payment_retry_queue/paymentretryqueue/EntryState"), (.object "com/example/payment_retry_queue/paymentretryqueue/EntryState"), (.array (.object "com/example/payment_retry_queue/paymentretryqueue/EntryState"))]
  resolved := Array.replicate 133 none
  statics := some 0 }

def pool7 : Array CpInfo := pool [(1, u "java/lang/Cloneable"), (0, .class_ 1), (0, u "java/lang/Object"), (0, .class_ 3)] 3

/-- java/lang/Cloneable -/
def k7 : Class := { plain "java/lang/Cloneable" (some 0) with
  accessFlags := 1537
  interfaces := #[]
  cf := some (fileOf pool7 2 #[] #[] 1537 4 #[] #[])
  fields := #[]
  methods := #[]
  instanceTypes := #[]
  staticTypes := #[]
  resolved := Array.replicate 8 none
  statics := none }

/-- the primitive byte -/
def k8 : Class := { plain "byte" none with kind := .primitive 'B', accessFlags := 0x411 }
/-- [B -/
def k9 : Class := { plain "[B" (some 0) with kind := .array 8 .byte, interfaces := #[7, 4], accessFlags := 1041 }

/-- the primitive int -/
def k10 : Class := { plain "int" none with kind := .primitive 'I', accessFlags := 0x411 }
/-- [I -/
def k11 : Class := { plain "[I" (some 0) with kind := .array 10 .int, interfaces := #[7, 4], accessFlags := 1041 }

def heap : Heap := #[{ cls := 6, slots := #[.ref 1, .ref 2, .ref 3, .ref 4, .ref 5, .ref 6, .ref 7, .ref 8, .null], vm := .statics 6 },
  { cls := 6, slots := #[.null, .int 0, .int 0], vm := .none },
  { cls := 6, slots := #[.null, .int 1, .int 0], vm := .none },
  { cls := 6, slots := #[.null, .int 2, .int 0], vm := .none },
  { cls := 6, slots := #[.null, .int 3, .int 0], vm := .none },
  { cls := 6, slots := #[.null, .int 4, .int 0], vm := .none },
  { cls := 6, slots := #[.null, .int 5, .int 0], vm := .none },
  { cls := 6, slots := #[.null, .int 6, .int 0], vm := .none },
  { cls := 6, slots := #[.null, .int 7, .int 0], vm := .none }]
def classes : Array Class := #[k0, k1, k2, k3, k4, k5, k6, k7, k8, k9, k10, k11]
def interned : List (Array UInt16 × Addr) := []
def slotsUsed : Nat := 33
def theMethod : MethodId := ⟨1, 2⟩
def args0 : Array Value := #[.int 5]
def aboutOver (below : List Frame) : State where
  vm := { classes := classes, interned := interned.toArray }
  heap := heap
  slotsUsed := slotsUsed
  threads := #[{ frames := .invoking theMethod args0 :: below }]
def below0 : List Frame := [.native { method := ⟨0, 0⟩, args := #[] }]
def about1 : State := aboutOver below0
def p0 : Program := .bare "" "" ""
def e0 : Env := launch0.env 0 0 0
theorem w_frames : about1.frames = Frame.invoking theMethod args0 :: below0 := rfl
set_option maxRecDepth 65536 in
theorem w_args : argsFit about1.vm theMethod args0 = true := by decide +kernel
set_option maxRecDepth 65536 in
theorem w_heap : heapFits about1 = true := by decide +kernel
set_option maxRecDepth 65536 in
theorem w_runnable : about1.curStatus? = some .runnable := by decide +kernel
set_option maxRecDepth 65536 in
theorem w_alone : about1.alone = true := by decide +kernel
set_option maxRecDepth 65536 in
theorem w_named : about1.methodNamed? x = some theMethod := by decide +kernel
set_option maxRecDepth 65536 in
theorem w_hears : about1.hears theMethod below0 = true := by decide +kernel
set_option maxRecDepth 65536 in
theorem w_ripe : about1.ripe theMethod args0 below0 = true := by decide +kernel
theorem w_running : about1.status = .running := rfl
set_option maxRecDepth 65536 in
theorem w_room : about1.hasRoom e0.platform room_1 = true :=
  launch0.hasRoom_least _ room_1 (by decide +kernel) (by decide +kernel) (by decide +kernel) (by decide +kernel) (by decide +kernel) (by decide +kernel)
theorem allAtoms_all (ts : List Jvm.Cond) (a : Array Jvm.Value) (st : Jvm.State) : (allAtoms ts).before a st = ts.all (fun c => c.before a st) := by
  induction ts with
  | nil => rfl
  | cons c t ih =>
    show (Jvm.Cond.and c (allAtoms t)).before a st = _
    rw [Jvm.Cond.before_and, ih, List.all_cons]
def words1 : List Jvm.Cond := Jvm.Cond.code x code maxLocals ret :: tables_1
/-- a 'code' word, met by the world's own term for the bytes: nothing is compared byte by byte -/
theorem code_word {y : MethodName} {bytes : ByteArray} {mx : Nat} {rt : Option FieldType} {a : Array Value} {s : State} {m : MethodId} {meth : Method} {c : Code} (h1 : s.methodNamed? y = some m) (h2 : s.vm.method? m = some meth) (h3 : meth.code = some c) (h4 : c.code = bytes)
    (h5 : (c.maxLocals == mx && c.exceptionTable.isEmpty && decide (c.maxStack ≤ mostOperands) && decide (meth.sig.returnType = rt) && !meth.locks && decide (parseMethodDescriptor y.desc = some meth.sig)) = true) : (Jvm.Cond.code y bytes mx rt).before a s = true := by
  simp only [Bool.and_eq_true, beq_iff_eq, Bool.not_eq_true', decide_eq_true_eq] at h5
  obtain ⟨⟨⟨⟨⟨g1, g2⟩, g3⟩, g4⟩, g5⟩, g6⟩ := h5
  simp [Cond.before, Cond.holds, Cond.value, h1, h2, h3, h4, g1, g2, g3, g4, g5, g6]
def isCode : Jvm.Cond → Bool
  | .code _ _ _ _ => true
  | _ => false
theorem all_split {L : List Jvm.Cond} {P : Jvm.Cond → Bool} (h1 : L.all (fun c => isCode c || P c) = true) (h2 : ∀ c ∈ L.filter isCode, P c = true) : L.all P = true := by
  refine List.all_eq_true.mpr fun c hc => ?_
  have h := List.all_eq_true.mp h1 c hc
  rcases Bool.eq_false_or_eq_true (isCode c) with hi | hi
  · exact h2 c (List.mem_filter.mpr ⟨hc, hi⟩)
  · simpa [hi] using h
set_option maxRecDepth 65536 in
theorem w_c0 : (Jvm.Cond.code x code maxLocals ret).before args0 about1 = true := code_word (m := ⟨1, 2⟩) (meth := k1m2) (c := k1c2) (by decide +kernel) rfl rfl rfl (by decide +kernel)
set_option maxRecDepth 65536 in
theorem w_c1 : (Jvm.Cond.code ({ cls := "com/example/payment_retry_queue/paymentretryqueue/EntryStateIsFinalPinLaw", name := "pick", desc := "(I)Lcom/example/payment_retry_queue/paymentretryqueue/EntryState;" } : Jvm.MethodName) method_2_code (1 : Nat) (Option.some (Jvm.ClassFile.FieldType.object "com/example/payment_retry_queue/paymentretryqueue/EntryState"))).before args0 about1 = true := code_word (m := ⟨1, 1⟩) (meth := k1m1) (c := k1c1) (by decide +kernel) rfl rfl rfl (by decide +kernel)
set_option maxRecDepth 65536 in
theorem w_c2 : (Jvm.Cond.code ({ cls := "com/example/payment_retry_queue/paymentretryqueue/EntryState", name := "isFinal", desc := "()Z" } : Jvm.MethodName) prog_11_method_5_code (1 : Nat) (Option.some Jvm.ClassFile.FieldType.boolean)).before args0 about1 = true := code_word (m := ⟨6, 0⟩) (meth := k6m0) (c := k6c0) (by decide +kernel) rfl rfl rfl (by decide +kernel)
set_option maxRecDepth 65536 in
theorem w_c3 : (Jvm.Cond.code ({ cls := "java/lang/Enum", name := "ordinal", desc := "()I" } : Jvm.MethodName) jdk_37_method_2_code (1 : Nat) (Option.some Jvm.ClassFile.FieldType.int)).before args0 about1 = true := code_word (m := ⟨5, 0⟩) (meth := k5m0) (c := k5c0) (by decide +kernel) rfl rfl rfl (by decide +kernel)
def codes1 : List Jvm.Cond := [Jvm.Cond.code x code maxLocals ret, Jvm.Cond.code ({ cls := "com/example/payment_retry_queue/paymentretryqueue/EntryStateIsFinalPinLaw", name := "pick", desc := "(I)Lcom/example/payment_retry_queue/paymentretryqueue/EntryState;" } : Jvm.MethodName) method_2_code (1 : Nat) (Option.some (Jvm.ClassFile.FieldType.object "com/example/payment_retry_queue/paymentretryqueue/EntryState")), Jvm.Cond.code ({ cls := "com/example/payment_retry_queue/paymentretryqueue/EntryState", name := "isFinal", desc := "()Z" } : Jvm.MethodName) prog_11_method_5_code (1 : Nat) (Option.some Jvm.ClassFile.FieldType.boolean), Jvm.Cond.code ({ cls := "java/lang/Enum", name := "ordinal", desc := "()I" } : Jvm.MethodName) jdk_37_method_2_code (1 : Nat) (Option.some Jvm.ClassFile.FieldType.int)]
set_option maxRecDepth 65536 in
theorem codes_eq : words1.filter isCode = codes1 := rfl
theorem w_codes : ∀ c ∈ words1.filter isCode, c.before args0 about1 = true := by
  rw [codes_eq]
  intro c hc
  simp only [codes1, List.mem_cons, List.not_mem_nil, or_false] at hc
  rcases hc with rfl | rfl | rfl | rfl
  · exact w_c0
  · exact w_c1
  · exact w_c2
  · exact w_c3
set_option maxRecDepth 65536 in
theorem w_t1 : (words1.take 24).all (fun c => isCode c || c.before args0 about1) = true := by decide +kernel
set_option maxRecDepth 65536 in
theorem w_t2 : (words1.drop 24).all (fun c => isCode c || c.before args0 about1) = true := by decide +kernel
theorem w_tables : (allAtoms (Jvm.Cond.code x code maxLocals ret :: tables_1)).before args0 about1 = true := by
  rw [allAtoms_all]
  show words1.all (fun c => c.before args0 about1) = true
  refine all_split ?_ w_codes
  rw [← List.take_append_drop 24 words1, List.all_append, w_t1, w_t2]
  rfl
set_option maxRecDepth 65536 in
theorem w_case : (Jvm.Cond.and given_1 narrow_1).before args0 about1 = true := by decide +kernel
theorem w_applies : (headSpec (Jvm.Cond.code x code maxLocals ret :: tables_1) room_1).applies x e0.platform about1 = true :=
  (Spec.applies_iff w_frames).mpr ⟨w_running, w_runnable, w_alone, w_named, w_hears, w_ripe, w_room, w_tables⟩
theorem atStart : AtStart classFile x code maxLocals ret World_1 tables_1 room_1 Calls_1 rest_1 Pre_1 launch0 p0 e0 about1 theMethod args0 below0 :=
  ⟨lists_1, trivial, launch0.admits_env _ _ _, launch0.least_env, fairChoices_fair.cas, fairChoices_fair.clock, w_frames, w_args, w_heap, w_applies, trivial, trivial, w_case⟩
end start1
theorem witness_1 : WitnessClaimed_1 := ⟨start1.p0, start1.e0, start1.about1, start1.theMethod, start1.args0, start1.below0, start1.atStart⟩
end Jvm.Pilot.@@N@@
