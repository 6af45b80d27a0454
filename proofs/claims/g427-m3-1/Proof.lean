import JvmDerived
import JvmDerived.Pilot.@@N@@Statement
import JvmDerived.Pilot.@@N@@Code
set_option linter.unusedVariables false
set_option linter.unusedSimpArgs false
namespace Jvm.RoadKit
open Sem ClassFile Op Lib Jvm.Stand Jvm.Free Jvm.LawKit
section OwnGo
variable {p : Program} {l : Launch} {e : Env} {R : Room} {s : State} {m : MethodId} {args : Array Value} {below : List Frame} {meth : Method} {c : Code} {T T' : State} {locs : List Loc} {cells slots : Nat} {tb : Tables} {P : State → Outcome → Prop} {g g' : JFrame} {Z : State} {a0 : Array Value} {h h' : Heap}
/-- from here the run goes on to an end that P says -/
def Go (tb : Tables) (e : Env) (below : List Frame) (P : State → Outcome → Prop) (T : State) (g : JFrame) : Prop :=
  ∃ u o, Steps tb e below (T.setTop g) u ∧ u.status = .running ∧ Ended u below o ∧ P u o
theorem Go.st (st : ∀ target, Steps tb e below (T'.setTop g') target → Steps tb e below (T.setTop g) target) (k : Go tb e below P T' g') : Go tb e below P T g := by
  obtain ⟨u, o, h1, h2⟩ := k
  exact ⟨u, o, st u h1, h2⟩
theorem Go.tr (st : Steps tb e below (T.setTop g) (T'.setTop g')) (k : Go tb e below P T' g') : Go tb e below P T g := Go.st (fun _ h => st.trans h) k
theorem Go.cast (q : g = g') (k : Go tb e below P T g') : Go tb e below P T g := q ▸ k
/-- the end of a body that interns nothing -/
def FinP (s : State) (Q : Option Value → Heap → List Loc → Prop) (K N : Nat) (u : State) (o : Outcome) : Prop := ∃ v L, o = .returned v ∧ Q v u.heap L ∧ FrameEnd s o u L K N
theorem Go.retN {Q : Option Value → Heap → List Loc → Prop} {K N : Nat} (X : Stand p l e R s m args below meth c T locs cells slots) (hx : p.tables.exec = Jvm.exec) (hlk : meth.locks = false) {pc : Nat} {Ls : Array Slot} {z : Int32} {t : FieldType} {rest : List Value} (hret : meth.sig.returnType = some t)
    (hn : narrow t (.int z) = .int z) (ht : t = .int ∨ t = .boolean ∨ t = .byte ∨ t = .char ∨ t = .short) (hd : decode c.code pc = .ok (.ireturn, 1)) (hK : cells ≤ K) (hN : slots ≤ N) (eT : T.heap = h) (hQ : Q (some (.int z)) h locs) : Go p.tables e below (FinP s Q K N) T (mkF m pc Ls (.int z :: rest)) := by
  obtain ⟨fs, hr, hrun, hended, hW, hsame⟩ := X.leave (v := some (.int z)) (fun h => by rw [hret] at h; cases h) hlk
  exact ⟨_, _, retOut X hx hret hn (Or.inl ⟨rfl, ht, z, rfl⟩) hd hr, hrun, hended, _, _, rfl, (by rw [show (T.setFrames fs).heap = h from eT]; exact hQ), ⟨_, rfl⟩, hW, hsame.mono hK hN⟩
theorem Go.retL {Q : Option Value → Heap → List Loc → Prop} {K N : Nat} (X : Stand p l e R s m args below meth c T locs cells slots) (hx : p.tables.exec = Jvm.exec) (hlk : meth.locks = false) {pc : Nat} {Ls : Array Slot} {z : Int64} {rest : List Value} (hret : meth.sig.returnType = some .long)
    (hd : decode c.code pc = .ok (.lreturn, 1)) (hK : cells ≤ K) (hN : slots ≤ N) (eT : T.heap = h) (hQ : Q (some (.long z)) h locs) : Go p.tables e below (FinP s Q K N) T (mkF m pc Ls (.long z :: rest)) := by
  obtain ⟨fs, hr, hrun, hended, hW, hsame⟩ := X.leave (v := some (.long z)) (fun h => by rw [hret] at h; cases h) hlk
  exact ⟨_, _, retOut X hx hret rfl (Or.inr (Or.inl ⟨rfl, rfl, z, rfl⟩)) hd hr, hrun, hended, _, _, rfl, (by rw [show (T.setFrames fs).heap = h from eT]; exact hQ), ⟨_, rfl⟩, hW, hsame.mono hK hN⟩
theorem narrow_ref {t : FieldType} {w : Value} (ht : t.isReference = true) : narrow t w = w := by cases t <;> first | rfl | (cases w <;> rfl) | (simp [FieldType.isReference] at ht)
theorem Go.retA {Q : Option Value → Heap → List Loc → Prop} {K N : Nat} (X : Stand p l e R s m args below meth c T locs cells slots) (hx : p.tables.exec = Jvm.exec) (hlk : meth.locks = false) {pc : Nat} {Ls : Array Slot} {w : Value} {t : FieldType} {rest : List Value} (hret : meth.sig.returnType = some t)
    (ht : t.isReference = true) (hw : w.isRef = true) (hd : decode c.code pc = .ok (.areturn, 1)) (hK : cells ≤ K) (hN : slots ≤ N) (eT : T.heap = h) (hQ : Q (some w) h locs) : Go p.tables e below (FinP s Q K N) T (mkF m pc Ls (w :: rest)) := by
  obtain ⟨fs, hr, hrun, hended, hW, hsame⟩ := X.leave (v := some w) (fun h => by rw [hret] at h; cases h) hlk
  exact ⟨_, _, retOut X hx hret (narrow_ref ht) (Or.inr (Or.inr (Or.inr (Or.inr ⟨rfl, ht, hw⟩)))) hd hr, hrun, hended, _, _, rfl, (by rw [show (T.setFrames fs).heap = h from eT]; exact hQ), ⟨_, rfl⟩, hW, hsame.mono hK hN⟩
theorem Go.retV {Q : Option Value → Heap → List Loc → Prop} {K N : Nat} (X : Stand p l e R s m args below meth c T locs cells slots) (hx : p.tables.exec = Jvm.exec) (hlk : meth.locks = false) {pc : Nat} {Ls : Array Slot} (hret : meth.sig.returnType = none)
    (hd : decode c.code pc = .ok (.return_, 1)) (hK : cells ≤ K) (hN : slots ≤ N) (eT : T.heap = h) (hQ : Q none h locs) : Go p.tables e below (FinP s Q K N) T (mkF m pc Ls []) := by
  obtain ⟨fs, hr, hrun, hended, hW, hsame⟩ := X.leave (v := none) (fun _ => rfl) hlk
  exact ⟨_, _, X.returnOut hx hret hd hr, hrun, hended, _, _, rfl, (by rw [show (T.setFrames fs).heap = h from eT]; exact hQ), ⟨_, rfl⟩, hW, hsame.mono hK hN⟩
/-- a body's contract: called with as' at the heap h0 it returns as Q says -/
def Con (l : Launch) (Z : State) (y : MethodName) (bytes : ByteArray) (maxL : Nat) (ret : Option FieldType) (ws : List Cond) (rm : Room) (as' : Array Value) (h0 : Heap) (Q : Option Value → Heap → List Loc → Prop) : Prop :=
  MetFree l y (head1 (Cond.code y bytes maxL ret :: ws) rm) (fun a U => a = as' ∧ Z.Warmed39 U.vm ∧ U.heap = h0) (fun _ _ _ _ _ => True) (fun _ U o U' => ∃ v L, o = .returned v ∧ Q v U'.heap L ∧ FrameEnd U o U' L rm.cells rm.slots)
theorem Con.enter {y : MethodName} {bytes : ByteArray} {maxL : Nat} {ret : Option FieldType} {ws : List Cond} {rm : Room} {as' : Array Value} {h0 : Heap} {Q : Option Value → Heap → List Loc → Prop} (hp : plainFor y = true)
    (H : ∀ (p : Program) (e : Env) (s : State) (m : MethodId) (below : List Frame) (meth : Method) (c : Code) (s₁ : State), Stand p l e rm s m as' below meth c s₁ [] 0 0 → p.tables.exec = Jvm.exec → Z.Warmed39 s.vm → c.code = bytes → c.maxLocals = maxL → meth.sig.returnType = ret → meth.locks = false → s.vm.findClass y.cls = some m.cls → meth.name = y.name → s₁.heap = h0 →
      Go p.tables e below (FinP s Q rm.cells rm.slots) s₁ (entryFrame m as' maxL)) : Con l Z y bytes maxL ret ws rm as' h0 Q := by
  refine MetFree.of_bodySF hp hisR ?_
  intro p e s m args below meth c s₁ Bd hml0 hP hK
  obtain ⟨rfl, hZ, hh⟩ := hP
  exact H p e s m below meth c s₁ (Stand.of_body Bd) Bd.exec hZ Bd.bytes hml0 Bd.returns Bd.notSynchronized (findClass_of_methodNamed Bd.named) (name_of_methodNamed Bd.named Bd.method).1 (by rw [← hh, Bd.state]; rfl)
theorem Con.mono {y : MethodName} {bytes : ByteArray} {maxL : Nat} {ret : Option FieldType} {ws : List Cond} {rm : Room} {as' : Array Value} {h0 : Heap} {Q Q' : Option Value → Heap → List Loc → Prop} (C : Con l Z y bytes maxL ret ws rm as' h0 Q) (H : ∀ v h L, Q v h L → Q' v h L) : Con l Z y bytes maxL ret ws rm as' h0 Q' := by
  intro p e ha hc hk s m args below hf happ hP hK
  obtain ⟨n, o, h1, h2, h3, v, L, rfl, hq, hr⟩ := C p e ha hc hk s m args below hf happ hP hK
  exact ⟨n, _, h1, h2, h3, v, L, rfl, H _ _ _ hq, hr⟩
variable {y z : MethodName} {bytes : ByteArray} {maxL : Nat} {ret : Option FieldType} {rm : Room} {as' : Array Value} {Q : Option Value → Heap → List Loc → Prop} {W len : Nat} {own C owner : String} {index : Nat} {argsL rest : List Value}
/-- behind a call -/
theorem Go.back {vs : Array Value} {vm1 : Vm → Pt} {n : Nat} (H : ∃ (v : Option Value) (vm₁ : Vm) (B : Pt), s.WarmedH vm₁ ∧ Stand p l e R s m args below meth c B.U B.locs B.cells B.slots ∧ (∃ L, Q v B.U.heap L ∧ B.locs = locs ++ L ∧ B.cells = cells + rm.cells ∧ B.slots = slots + rm.slots) ∧
      Steps p.tables e below (T.setTop g) (B.U.setTop { g with pc := g.pc + n, stack := v.toList ++ rest }))
    (k : ∀ (v : Option Value) (T' : State) (h' : Heap) (L : List Loc), Stand p l e R s m args below meth c T' (locs ++ L) (cells + rm.cells) (slots + rm.slots) → T'.heap = h' → Q v h' L → Go p.tables e below P T' { g with pc := g.pc + n, stack := v.toList ++ rest }) : Go p.tables e below P T g := by
  obtain ⟨v, _, ⟨U, L1, k1, n1⟩, -, X', ⟨L, hQ, e1, e2, e3⟩, st⟩ := H
  have e1' : L1 = locs ++ L := e1
  have e2' : k1 = cells + rm.cells := e2
  have e3' : n1 = slots + rm.slots := e3
  subst e1' e2' e3'
  exact Go.tr st (k v U _ L X' rfl hQ)
theorem Go.callSt (X : Stand p l e R s m args below meth c T locs cells slots) (hx : p.tables.exec = Jvm.exec) (hZ : Z.Warmed39 s.vm) (hown : s.vm.findClass own = some m.cls) (eT : T.heap = h)
    (w1 : (Cond.methodLink own index y).before a0 Z = true) (w2 : (Cond.static y).before a0 Z = true) (w3 : (Cond.initialized y.cls).before a0 Z = true) (w4 : (Cond.code y bytes maxL ret).before a0 Z = true) (hy : y.cls ≠ "java/lang/invoke/MethodHandle" ∧ y.cls ≠ "java/lang/invoke/VarHandle")
    (hM : Con l Z y bytes maxL ret [] rm as' h Q) (ha : argsL.toArray = as') (hlen : ∀ sig, parseMethodDescriptor y.desc = some sig → argsL.length = sig.parameters.length) (hg : g.method = m) (hsize : g.locals.size = c.maxLocals) (hst : g.stack = argsL.reverse ++ rest)
    (hW : 2 * g.monitorRoom + (rest.map fun v => v.category).sum ≤ W) (hf : rm.frames + 1 ≤ R.frames) (hl : W + (maxL + 11) + rm.locals ≤ R.locals) (hc : cells + rm.cells ≤ R.cells) (hs : slots + rm.slots ≤ R.slots) (hd : decode c.code g.pc = .ok (.invokestatic index, 3))
    (k : ∀ (v : Option Value) (T' : State) (h' : Heap) (L : List Loc), Stand p l e R s m args below meth c T' (locs ++ L) (cells + rm.cells) (slots + rm.slots) → T'.heap = h' → Q v h' L → Go p.tables e below P T' { g with pc := g.pc + 3, stack := v.toList ++ rest }) : Go p.tables e below P T g := by
  obtain ⟨v, vm₁, B, q1, q2, q3, q4⟩ := Jvm.LawKit.callS X hx (y := y) (bytes := bytes) (maxL := maxL) (ret := ret) hown (mvT hZ w1) (mvT hZ w2) (mvT hZ w3) (mvT hZ w4) hy (backOf (W := W) (a0 := a0) hM hZ w4 w3 hf hl) (g := g) hg hsize (argsL := argsL) (rest := rest) hlen hst hW hd (fun _ _ => ⟨ha, eT, hc, hs⟩)
  exact Go.back (vs := as') (vm1 := fun _ => ⟨T, [], 0, 0⟩) ⟨v, vm₁, B, q1, q2, q3, q4 _ (Steps.refl _)⟩ k
theorem Go.callSp (X : Stand p l e R s m args below meth c T locs cells slots) (hx : p.tables.exec = Jvm.exec) (hZ : Z.Warmed39 s.vm) (hown : s.vm.findClass own = some m.cls) (eT : T.heap = h) (hy1 : y.name = "<init>")
    (w1 : (Cond.methodLink own index y).before a0 Z = true) (w2 : (Cond.instanceMethod y).before a0 Z = true) (w3 : (Cond.initialized y.cls).before a0 Z = true) (w4 : (Cond.code y bytes maxL none).before a0 Z = true) (hy : y.cls ≠ "java/lang/invoke/MethodHandle" ∧ y.cls ≠ "java/lang/invoke/VarHandle")
    {a : Addr} (hM : Con l Z y bytes maxL none [] rm as' h Q) (ha : (Value.ref a :: argsL).toArray = as') (hlen : ∀ sig, parseMethodDescriptor y.desc = some sig → argsL.length = sig.parameters.length) (hg : g.method = m) (hsize : g.locals.size = c.maxLocals) (hst : g.stack = argsL.reverse ++ .ref a :: rest)
    (hW : 2 * g.monitorRoom + (rest.map fun v => v.category).sum ≤ W) (hf : rm.frames + 1 ≤ R.frames) (hl : W + (maxL + 11) + rm.locals ≤ R.locals) (hc : cells + rm.cells ≤ R.cells) (hs : slots + rm.slots ≤ R.slots) (hd : decode c.code g.pc = .ok (.invokespecial index, 3))
    (k : ∀ (v : Option Value) (T' : State) (h' : Heap) (L : List Loc), Stand p l e R s m args below meth c T' (locs ++ L) (cells + rm.cells) (slots + rm.slots) → T'.heap = h' → Q v h' L → Go p.tables e below P T' { g with pc := g.pc + 3, stack := v.toList ++ rest }) : Go p.tables e below P T g := by
  exact Go.back (vs := as') (vm1 := fun _ => ⟨T, [], 0, 0⟩) (X.specialBack hx (y := y) hy1 hown (mvT hZ w1) (mvT hZ w2) (mvT hZ w4) hy (backOf (W := W) (a0 := a0) hM hZ w4 w3 hf hl) (g := g) hg hsize (Steps.refl _) (a := a) (argsL := argsL) (rest := rest) hlen hst hW hd (fun _ _ => ⟨ha, eT, hc, hs⟩)) k
theorem Go.callV (X : Stand p l e R s m args below meth c T locs cells slots) (hx : p.tables.exec = Jvm.exec) (hZ : Z.Warmed39 s.vm) (hown : s.vm.findClass own = some m.cls) (eT : T.heap = h)
    (w1 : (Cond.methodLink own index y).before a0 Z = true) (w2 : (Cond.declares y).before a0 Z = true) (w5 : (Cond.selects C y z).before a0 Z = true) (w6 : (Cond.instanceMethod z).before a0 Z = true) (w3 : (Cond.initialized z.cls).before a0 Z = true) (w4 : (Cond.code z bytes maxL ret).before a0 Z = true)
    (hnf : NotFace s y) (hy : y.cls ≠ "java/lang/invoke/MethodHandle" ∧ y.cls ≠ "java/lang/invoke/VarHandle")
    {a : Addr} (E : Exa Z h a C) (hM : Con l Z z bytes maxL ret [] rm as' h Q) (ha : (Value.ref a :: argsL).toArray = as') (hlen : ∀ sig, parseMethodDescriptor y.desc = some sig → argsL.length = sig.parameters.length) (hg : g.method = m) (hsize : g.locals.size = c.maxLocals) (hst : g.stack = argsL.reverse ++ .ref a :: rest)
    (hW : 2 * g.monitorRoom + (rest.map fun v => v.category).sum ≤ W) (hf : rm.frames + 1 ≤ R.frames) (hl : W + (maxL + 11) + rm.locals ≤ R.locals) (hc : cells + rm.cells ≤ R.cells) (hs : slots + rm.slots ≤ R.slots) (hd : decode c.code g.pc = .ok (.invokevirtual index, 3))
    (k : ∀ (v : Option Value) (T' : State) (h' : Heap) (L : List Loc), Stand p l e R s m args below meth c T' (locs ++ L) (cells + rm.cells) (slots + rm.slots) → T'.heap = h' → Q v h' L → Go p.tables e below P T' { g with pc := g.pc + 3, stack := v.toList ++ rest }) : Go p.tables e below P T g := by
  obtain ⟨cq, kq, qa, qb, qc⟩ := isOf hZ eT E
  exact Go.back (vs := as') (vm1 := fun _ => ⟨T, [], 0, 0⟩) (X.virtualBack hx (y := y) (z := z) hown (mvT hZ w1) (mvT hZ w2) hnf (mvT hZ w5) (mvT hZ w6) hy (backOf (W := W) (a0 := a0) hM hZ w4 w3 hf hl) qa qc (g := g) hg hsize (Steps.refl _) (argsL := argsL) (rest := rest) hlen hst hW hd (fun _ _ => ⟨ha, eT, hc, hs⟩)) k
theorem Go.callUp (X : Stand p l e R s m args below meth c T locs cells slots) (hx : p.tables.exec = Jvm.exec) (hZ : Z.Warmed39 s.vm) (hown : s.vm.findClass own = some m.cls) (eT : T.heap = h)
    (w1 : (Cond.methodLink own index y).before a0 Z = true) (w2 : (Cond.sameMethod y.cls owner y.name y.desc).before a0 Z = true) (w7 : (Cond.declares ⟨owner, y.name, y.desc⟩).before a0 Z = true) (hy : owner ≠ "java/lang/invoke/MethodHandle" ∧ owner ≠ "java/lang/invoke/VarHandle")
    (w5 : (Cond.selects C y z).before a0 Z = true) (w6 : (Cond.instanceMethod z).before a0 Z = true) (w3 : (Cond.initialized z.cls).before a0 Z = true) (w4 : (Cond.code z bytes maxL ret).before a0 Z = true)
    {a : Addr} (E : Exa Z h a C) (hM : Con l Z z bytes maxL ret [] rm as' h Q) (ha : (Value.ref a :: argsL).toArray = as') (hlen : ∀ sig, parseMethodDescriptor y.desc = some sig → argsL.length = sig.parameters.length) (hg : g.method = m) (hsize : g.locals.size = c.maxLocals) (hst : g.stack = argsL.reverse ++ .ref a :: rest)
    (hW : 2 * g.monitorRoom + (rest.map fun v => v.category).sum ≤ W) (hf : rm.frames + 1 ≤ R.frames) (hl : W + (maxL + 11) + rm.locals ≤ R.locals) (hc : cells + rm.cells ≤ R.cells) (hs : slots + rm.slots ≤ R.slots) (hd : decode c.code g.pc = .ok (.invokevirtual index, 3))
    (k : ∀ (v : Option Value) (T' : State) (h' : Heap) (L : List Loc), Stand p l e R s m args below meth c T' (locs ++ L) (cells + rm.cells) (slots + rm.slots) → T'.heap = h' → Q v h' L → Go p.tables e below P T' { g with pc := g.pc + 3, stack := v.toList ++ rest }) : Go p.tables e below P T g := by
  obtain ⟨cq, kq, qa, qb, qc⟩ := isOf hZ eT E
  exact Go.back (vs := as') (vm1 := fun _ => ⟨T, [], 0, 0⟩) (X.virtualBackUp hx (x := y) (y := z) hown (mvT hZ w1) (mvT hZ w2) (mvT hZ w7) hy (mvT hZ w5) (mvT hZ w6) (backOf (W := W) (a0 := a0) hM hZ w4 w3 hf hl) qa qc (g := g) hg hsize (Steps.refl _) (argsL := argsL) (rest := rest) hlen hst hW hd (fun _ _ => ⟨ha, eT, hc, hs⟩)) k
theorem ldCV (X : Stand p l e R s m args below meth c T locs cells slots) (hx : p.tables.exec = Jvm.exec) (hZ : Z.Warmed39 s.vm) (eT : T.heap = h) {a : Addr} {k : ClassId} {z : Int32} {vs : List Value} {d : Value} (F : Arv Z h a k .char z vs d) {j : Int32} (hj : ¬ j < 0 ∧ j < z) {v : Value} (hv : vs.getD j.toNatClampNeg d = v) {g : JFrame} (hg : g.method = m) {rest : List Value} (hs : g.stack = .int j :: .ref a :: rest) (hd : decode c.code g.pc = .ok (.caload, 1)) {target : State}
    (kk : Steps p.tables e below (T.setTop { g with pc := g.pc + 1, stack := v :: rest }) target) : Steps p.tables e below (T.setTop g) target := by
  obtain ⟨cl, A, q1, S, q3, H, G⟩ := F
  exact X.caload hx (j := j) (v := v) (by rw [eT]; exact A.1) (State.isArrayOf_alike hZ.alike A.2.1) A.2.2 (inb_of S hj) (H.at (inb_of S hj) hv) hg hs hd _ kk
theorem ldBV (X : Stand p l e R s m args below meth c T locs cells slots) (hx : p.tables.exec = Jvm.exec) (hZ : Z.Warmed39 s.vm) (eT : T.heap = h) {a : Addr} {k : ClassId} {z : Int32} {vs : List Value} {d : Value} (F : Arv Z h a k .byte z vs d) {j : Int32} (hj : ¬ j < 0 ∧ j < z) {v : Value} (hv : vs.getD j.toNatClampNeg d = v) {g : JFrame} (hg : g.method = m) {rest : List Value} (hs : g.stack = .int j :: .ref a :: rest) (hd : decode c.code g.pc = .ok (.baload, 1)) {target : State}
    (kk : Steps p.tables e below (T.setTop { g with pc := g.pc + 1, stack := v :: rest }) target) : Steps p.tables e below (T.setTop g) target := by
  obtain ⟨cl, A, q1, S, q3, H, G⟩ := F
  exact X.baloadBytes hx (j := j) (v := v) (by rw [eT]; exact A.1) (State.isArrayOf_alike hZ.alike A.2.1) A.2.2 (inb_of S hj) (H.at (inb_of S hj) hv) hg hs hd _ kk
theorem ldIV (X : Stand p l e R s m args below meth c T locs cells slots) (hx : p.tables.exec = Jvm.exec) (hZ : Z.Warmed39 s.vm) (eT : T.heap = h) {a : Addr} {k : ClassId} {z : Int32} {vs : List Value} {d : Value} (F : Arv Z h a k .int z vs d) {j : Int32} (hj : ¬ j < 0 ∧ j < z) {v : Value} (hv : vs.getD j.toNatClampNeg d = v) {g : JFrame} (hg : g.method = m) {rest : List Value} (hs : g.stack = .int j :: .ref a :: rest) (hd : decode c.code g.pc = .ok (.iaload, 1)) {target : State}
    (kk : Steps p.tables e below (T.setTop { g with pc := g.pc + 1, stack := v :: rest }) target) : Steps p.tables e below (T.setTop g) target := by
  obtain ⟨cl, A, q1, S, q3, H, G⟩ := F
  exact X.iaload hx (j := j) (v := v) (by rw [eT]; exact A.1) (State.isArrayOf_alike hZ.alike A.2.1) A.2.2 (inb_of S hj) (H.at (inb_of S hj) hv) hg hs hd _ kk
theorem ldRV (X : Stand p l e R s m args below meth c T locs cells slots) (hx : p.tables.exec = Jvm.exec) (hZ : Z.Warmed39 s.vm) (eT : T.heap = h) {a : Addr} {k : ClassId} {C : String} {z : Int32} {vs : List Value} {d : Value} (F : Arv Z h a k (.object C) z vs d) {j : Int32} (hj : ¬ j < 0 ∧ j < z) {v : Value} (hv : vs.getD j.toNatClampNeg d = v) {g : JFrame} (hg : g.method = m) {rest : List Value} (hs : g.stack = .int j :: .ref a :: rest) (hd : decode c.code g.pc = .ok (.aaload, 1)) {target : State}
    (kk : Steps p.tables e below (T.setTop { g with pc := g.pc + 1, stack := v :: rest }) target) : Steps p.tables e below (T.setTop g) target := by
  obtain ⟨cl, A, q1, S, q3, H, G⟩ := F
  exact X.aaload hx (j := j) (v := v) (by rw [eT]; exact A.1) (State.isArrayOf_alike hZ.alike A.2.1) rfl A.2.2 (inb_of S hj) (H.at (inb_of S hj) hv) hg hs hd _ kk
theorem lenV (X : Stand p l e R s m args below meth c T locs cells slots) (hx : p.tables.exec = Jvm.exec) (hZ : Z.Warmed39 s.vm) (eT : T.heap = h) {a : Addr} {k : ClassId} {ty : FieldType} {z : Int32} {vs : List Value} {d : Value} (F : Arv Z h a k ty z vs d) {g : JFrame} (hg : g.method = m) {rest : List Value} (hs : g.stack = .ref a :: rest) (hd : decode c.code g.pc = .ok (.arraylength, 1)) {target : State}
    (kk : Steps p.tables e below (T.setTop { g with pc := g.pc + 1, stack := .int z :: rest }) target) : Steps p.tables e below (T.setTop g) target := by
  obtain ⟨cl, A, q1, S, q3, H, G⟩ := F
  refine X.arraylength hx (by rw [eT]; exact A.1) (State.isArrayOf_alike hZ.alike A.2.1) hg hs hd _ ?_
  rw [len_of S q3]; exact kk
theorem stCV (X : Stand p l e R s m args below meth c T locs cells slots) (hx : p.tables.exec = Jvm.exec) (hZ : Z.Warmed39 s.vm) (eT : T.heap = h) {a : Addr} {k : ClassId} {z : Int32} {vs : List Value} {d : Value} (F : Arv Z h a k .char z vs d) {j x : Int32} {i : Nat} (hj : ¬ j < 0 ∧ j < z) (hi : j.toNatClampNeg = i) (hl : i < vs.length) {g : JFrame} (hg : g.method = m) {rest : List Value} (hs : g.stack = .int x :: .int j :: .ref a :: rest) (hd : decode c.code g.pc = .ok (.castore, 1)) :
    ∃ T' h', Stand p l e R s m args below meth c T' (locs ++ [⟨a, j.toNatClampNeg⟩]) cells slots ∧ T'.heap = h' ∧ Wr h h' a j.toNatClampNeg (.int (nar .char x)) ∧ Arv Z h' a k .char z (vs.set i (.int (nar .char x))) d ∧ ∀ target, Steps p.tables e below (T'.setTop { g with pc := g.pc + 1, stack := rest }) target → Steps p.tables e below (T.setTop g) target := by
  obtain ⟨cl, A, q1, S, q3, H, G⟩ := F
  obtain ⟨T', h', X', e', W, st⟩ := stC X hx hZ eT A (inb_of S hj) hg hs hd
  exact ⟨T', h', X', e', W, Arv.set A q1 S q3 H G (fits_nar_char _) W i hi hl, st⟩
theorem stBV (X : Stand p l e R s m args below meth c T locs cells slots) (hx : p.tables.exec = Jvm.exec) (hZ : Z.Warmed39 s.vm) (eT : T.heap = h) {a : Addr} {k : ClassId} {z : Int32} {vs : List Value} {d : Value} (F : Arv Z h a k .byte z vs d) {j x : Int32} {i : Nat} (hj : ¬ j < 0 ∧ j < z) (hi : j.toNatClampNeg = i) (hl : i < vs.length) {g : JFrame} (hg : g.method = m) {rest : List Value} (hs : g.stack = .int x :: .int j :: .ref a :: rest) (hd : decode c.code g.pc = .ok (.bastore, 1)) :
    ∃ T' h', Stand p l e R s m args below meth c T' (locs ++ [⟨a, j.toNatClampNeg⟩]) cells slots ∧ T'.heap = h' ∧ Wr h h' a j.toNatClampNeg (.int (nar .byte x)) ∧ Arv Z h' a k .byte z (vs.set i (.int (nar .byte x))) d ∧ ∀ target, Steps p.tables e below (T'.setTop { g with pc := g.pc + 1, stack := rest }) target → Steps p.tables e below (T.setTop g) target := by
  obtain ⟨cl, A, q1, S, q3, H, G⟩ := F
  obtain ⟨T', h', X', e', W, st⟩ := stB X hx hZ eT A (inb_of S hj) hg hs hd
  exact ⟨T', h', X', e', W, Arv.set A q1 S q3 H G (fits_nar_byte _) W i hi hl, st⟩
theorem eqv_r {Z : State} {args : Array Value} {X F : Term} {idx : List Nat} {y : Addr} (hF : F.eval args Z none idx Z = some (.ref y)) (h : (Cond.eq X F).value args Z none Z idx = some true) : X.eval args Z none idx Z = some (.ref y) := by
  cases hX : X.eval args Z none idx Z with
  | none => simp [Cond.value, hX] at h
  | some v => cases v <;> simp [Cond.value, hX, hF] at h ⊢; exact h
theorem Arv.startL {Z : State} {args : Array Value} {t : Term} {a : Addr} {ty : FieldType} {z : Int32} {vs : List Value} {dv : Value} (hf : Fit Z) (et : t.eval args Z none [] Z = some (.ref a)) (ha : (Cond.arrayOf t ty).value args Z none Z [] = some true) (hl : (Cond.eq (.length t) (.int z)).value args Z none Z [] = some true)
    (hz : ¬ z < 0) (hn : z.toNatClampNeg = vs.length) (H : ∀ c, Z.heap[a]? = some c → HasL c 0 vs) : ∃ k, Arv Z Z.heap a k ty z vs dv := by
  obtain ⟨c, A⟩ := Arr.start et ha
  obtain ⟨b, cell, e1, e2, e3, e4⟩ := Jvm.Lib.length_spec (eqv_i rfl hl)
  cases et.symm.trans e1
  cases (A.fin (Vm.Alike.refl _)).symm.trans e2
  exact ⟨c.cls, Arv.start hf A e3 (Value.int.inj e4).symm hz hn (H c A.1)⟩
theorem Keep.toExt (K : Keep h h' []) : Ext h h' := ⟨K.1, fun a c q => K.2.1 a c q (fun z => nomatch z)⟩
theorem Ext.toKeep (E : Ext h h') : Keep h h' [] := ⟨E.1, fun a c q _ => E.2 a c q, fun a c q => ⟨c, E.2 a c q, rfl, rfl, rfl⟩⟩
theorem Ext.refl (h : Heap) : Ext h h := ⟨Nat.le_refl _, fun _ _ q => q⟩
theorem Ext.tr {h2 : Heap} (A : Ext h h') (B : Ext h' h2) : Ext h h2 := ⟨Nat.le_trans A.1 B.1, fun a c q => B.2 a c (A.2 a c q)⟩
theorem Ext.thenK {h2 : Heap} {ws : List Addr} (A : Ext h h') (K : Keep h' h2 ws) (q : ∀ x ∈ ws, h.size ≤ x) : Ext h h2 := (A.toKeep.trans K fun x hx => Or.inr (q x hx)).toExt
theorem Ext.thenW {h2 : Heap} {a : Addr} {sl : Nat} {v : Value} (A : Ext h h') (W : Wr h' h2 a sl v) (q : h.size ≤ a) : Ext h h2 := (A.toKeep.wr W (Or.inr q)).toExt
/-- a String: its coder and its bytes -/
def StrB (Z : State) (h : Heap) (a : Addr) (cd : Int32) (bs : List Int32) : Prop := ∃ (t : Addr) (k : ClassId), Exa Z h a "java/lang/String" ∧ Fld Z h a "java/lang/String" "coder" "B" (.int cd) ∧ Fld Z h a "java/lang/String" "value" "[B" (.ref t) ∧ Arv Z h t k .byte (Int32.ofNat bs.length) (bs.map Value.int) (.int (0 : Int32))
theorem StrB.ext {a : Addr} {cd : Int32} {bs : List Int32} (F : StrB Z h a cd bs) (E : Ext h h') : StrB Z h' a cd bs := by
  obtain ⟨t, k, h1, h2, h3, h4⟩ := F; exact ⟨t, k, h1.ext E, h2.ext E, h3.ext E, h4.ext E⟩
theorem StrB.lt {a : Addr} {cd : Int32} {bs : List Int32} (F : StrB Z h a cd bs) : a < h.size := by obtain ⟨t, k, h1, -⟩ := F; exact h1.lt
theorem StrB.exa {a : Addr} {cd : Int32} {bs : List Int32} (F : StrB Z h a cd bs) : Exa Z h a "java/lang/String" := by obtain ⟨t, k, h1, -⟩ := F; exact h1
theorem StrB.keepO {a b : Addr} {C : String} {kk : Nat} {cd : Int32} {bs : List Int32} (F : StrB Z h a cd bs) (E : Exa Z h b C) (hC : C ≠ "java/lang/String") (wi : (Cond.instantiable C kk).before a0 Z = true) (K : Keep h h' [b]) : StrB Z h' a cd bs := by
  obtain ⟨t, k, h1, h2, h3, h4⟩ := F
  have n1 : a ≠ b := ne_exa h1 E (Ne.symm hC)
  have n2 : t ≠ b := by obtain ⟨c, A, -⟩ := h4; exact Ne.symm (ne_arr E wi A)
  exact ⟨t, k, h1.keep K, h2.keep K (ninS n1 nin0), h3.keep K (ninS n1 nin0), h4.keep K (ninS n2 nin0)⟩
theorem StrB.wrO {a b : Addr} {sl : Nat} {v : Value} {C : String} {kk : Nat} {cd : Int32} {bs : List Int32} (F : StrB Z h a cd bs) (E : Exa Z h b C) (hC : C ≠ "java/lang/String") (wi : (Cond.instantiable C kk).before a0 Z = true) (W : Wr h h' b sl v) : StrB Z h' a cd bs := F.keepO E hC wi (Keep.of_wr W)
theorem Arv.uniq {a : Addr} {k k' : ClassId} {ty ty' : FieldType} {bs ds : List Int32} (lb : bs.length < 2 ^ 31) (ld : ds.length < 2 ^ 31) (A : Arv Z h a k ty (Int32.ofNat bs.length) (bs.map Value.int) (.int 0)) (B : Arv Z h a k' ty' (Int32.ofNat ds.length) (ds.map Value.int) (.int 0)) : bs = ds := by
  obtain ⟨c1, A1, -, A3, -, A5, -⟩ := A
  obtain ⟨c2, B1, -, B3, -, B5, -⟩ := B
  cases A1.1.symm.trans B1.1
  have z : ∀ n : Nat, n < 2 ^ 31 → (Int32.ofNat n).toNatClampNeg = n := fun n hn => by
    have q : (Int32.ofNat n).toInt = n := Int32.toInt_ofNat_of_lt (by omega)
    simp [Int32.toNatClampNeg, q]
  rw [z _ lb] at A3
  rw [z _ ld] at B3
  have hl : bs.length = ds.length := A3.symm.trans B3
  refine List.ext_getElem hl fun i h1 h2 => ?_
  have q := (A5 i (by omega)).symm.trans (B5 i (by omega))
  simpa [List.getD_eq_getElem?_getD, h1, h2] using q
theorem StrB.uniq {a : Addr} {cd cd' : Int32} {bs ds : List Int32} (lb : bs.length < 2 ^ 31) (ld : ds.length < 2 ^ 31) (F : StrB Z h a cd bs) (G : StrB Z h a cd' ds) : cd = cd' ∧ bs = ds := by
  obtain ⟨t, k, h1, h2, h3, h4⟩ := F
  obtain ⟨t', k', g1, g2, g3, g4⟩ := G
  have e1 : cd = cd' := Classical.byContradiction fun q => h2.ne g2 (fun z => q (Value.int.inj z)) rfl
  have e2 : t = t' := Classical.byContradiction fun q => h3.ne g3 (fun z => q (Value.ref.inj z)) rfl
  subst e2
  exact ⟨e1, h4.uniq lb ld g4⟩
theorem NS.rootI {O K : String} {kk : Nat} (w : (Cond.noSuperclass O).before a0 Z = true) (wk : (Cond.instantiable K kk).before a0 Z = true) (hn : O ≠ K) : NS Z O K := by
  obtain ⟨c, k, h1, h2, h3, -, -⟩ := Cond.noSuperclass_spec w
  obtain ⟨t, kt, g1, -⟩ := Cond.instantiable_spec wk
  have ne := ids_ne h1 g1 hn
  refine ⟨c, t, h1, g1, fun fuel => ?_⟩
  cases fuel with
  | zero => rfl
  | succ f => simp [Vm.isSubclassAux, ne, h2, h3]
theorem NS.noI {C S K : String} {kk : Nat} (w : (Cond.superclass C S).before a0 Z = true) (wk : (Cond.instantiable K kk).before a0 Z = true) (n : NS Z C K) (hn : C ≠ K) : ∃ c t, Z.vm.findClass C = some c ∧ Z.vm.findClass K = some t ∧ Z.vm.assignable c t = false := by
  obtain ⟨c, t, h0, g0, n3⟩ := n
  obtain ⟨p, k, kp, h1, h2, h3, h4, h5, -, h7⟩ := Cond.superclass_spec h0 w
  obtain ⟨t', kt, g1, g2, g3, g4, -⟩ := Cond.instantiable_spec wk
  cases g0.symm.trans g1
  have g7 : kt.isInterface = false := by simp only [Bool.or_eq_false_iff] at g4; exact g4.1
  have ne := ids_ne h0 g0 hn
  refine ⟨c, t, h0, g0, ?_⟩
  show Z.vm.assignableAux (255 + 1) c t = false
  simp [Vm.assignableAux, ne, h2, g2, h5, g3, g7, Vm.isSubclass, n3]
theorem i2c_id {x : Int32} (h : 0 ≤ x.toInt ∧ x.toInt < 65536) : x.toUInt32.toUInt16.toUInt32.toInt32 = x := by
  have q := c_i2c x
  exact Int32.toInt_inj.mp (by omega)
theorem i2b_id {x : Int32} (h : -128 ≤ x.toInt ∧ x.toInt < 128) : x.toInt8.toInt32 = x := by
  have q := c_i2b x
  exact Int32.toInt_inj.mp (by omega)
theorem nar_b {x : Int32} : nar .byte (x.toInt8.toInt32) = x.toInt8.toInt32 := i2b_id (c_i2b x).2
theorem nar_c {x : Int32} : nar .char (x.toUInt32.toUInt16.toUInt32.toInt32) = x.toUInt32.toUInt16.toUInt32.toInt32 := i2c_id (c_i2c x).2
theorem nar_cid {x : Int32} (h : 0 ≤ x.toInt ∧ x.toInt < 65536) : nar .char x = x := i2c_id h
theorem and255 (x : Int32) : 0 ≤ ((x &&& 255).toUInt32.toUInt16.toUInt32.toInt32).toInt ∧ ((x &&& 255).toUInt32.toUInt16.toUInt32.toInt32).toInt ≤ 255 := by
  have h := c_mask x 255 8 (by decide) (by decide)
  have q := c_i2c (x &&& 255)
  omega
theorem le255 {x : Int32} (h : 0 ≤ x.toInt ∧ x.toInt ≤ 255) : ¬ (255 : Int32) < x := by rw [Int32.lt_iff_toInt_lt]; have : (255 : Int32).toInt = 255 := rfl; omega
theorem ne_lt {x b i j : Nat} (h1 : x < i) (h2 : i ≤ j) (h3 : j ≤ b) : x ≠ b := by omega
theorem own_add0 (n : Nat) : n + 0 = n := rfl
end OwnGo
end Jvm.RoadKit
namespace Jvm.RoadKit
open Sem ClassFile Op Lib Jvm.Stand Jvm.Free Jvm.LawKit
section OwnS
variable {p : Program} {l : Launch} {e : Env} {R : Room} {s : State} {m : MethodId} {args : Array Value} {below : List Frame} {meth : Method} {c : Code} {T T' : State} {locs : List Loc} {cells slots : Nat} {tb : Tables} {P : State → Outcome → Prop} {g g' : JFrame} {Z : State} {a0 : Array Value} {h h' h0 : Heap} {EL : List (String × Nat)} {vm0 : Vm} {k0 : Nat}
/-- the end of a body that may have interned its constants -/
def FinS (s Z : State) (EL : List (String × Nat)) (h0 : Heap) (Q : Option Value → Heap → List Loc → Prop) (K N : Nat) (u : State) (o : Outcome) : Prop := ∃ v L, o = .returned v ∧ Q v u.heap L ∧ CHr Z EL s.vm h0 u.vm u.heap ∧ ReturnedEndW s o u L K N
theorem Go.endS {Q : Option Value → Heap → List Loc → Prop} {K N : Nat} (X : Stand p l e R (s.setVm vm0) m args below meth c T locs cells slots) (hlk : meth.locks = false) (hS : s.Since vm0 k0) (hk : k0 ≤ h.size) (A : CHr Z EL s.vm h0 vm0 h) (hZ : Z.Warmed39 vm0) (hEL : EW Z a0 EL) (hK : cells ≤ K) (hN : slots ≤ N) (eT : T.heap = h)
    {v : Option Value} (hv : meth.sig.returnType = none → v = none) (hQ : Q v h locs)
    (run : ∀ fs, (∀ (f : JFrame) (acts : List Action), f.method = m → f.locked = none → f.entered = [] → (doReturn e (T.setTop f) acts v).1 = T.setFrames fs) → Steps p.tables e below (T.setTop g) (T.setFrames fs)) : Go p.tables e below (FinS s Z EL h0 Q K N) T g := by
  obtain ⟨fs, hr, hrun, hended, hE⟩ := Stand.leaveW (s := s) (vm₁ := vm0) X hS (by rw [eT]; exact hk) (v := v) hv hlk
  have hh : (T.setFrames fs).heap = h := eT
  refine ⟨_, _, run fs hr, hrun, hended, v, locs, rfl, by rw [hh]; exact hQ, ?_, hE.1, hE.2.1, hE.2.2.1, hE.2.2.2.mono hK hN⟩
  rw [hh]
  show CHr Z EL s.vm h0 T.vm h
  exact A.trans (CHv.at X hZ hEL A.1)
theorem Go.retNS {Q : Option Value → Heap → List Loc → Prop} {K N : Nat} (X : Stand p l e R (s.setVm vm0) m args below meth c T locs cells slots) (hx : p.tables.exec = Jvm.exec) (hlk : meth.locks = false) (hS : s.Since vm0 k0) (hk : k0 ≤ h.size) (A : CHr Z EL s.vm h0 vm0 h) (hZ : Z.Warmed39 vm0) (hEL : EW Z a0 EL) {pc : Nat} {Ls : Array Slot} {z : Int32} {t : FieldType} {rest : List Value} (hret : meth.sig.returnType = some t)
    (hn : narrow t (.int z) = .int z) (ht : t = .int ∨ t = .boolean ∨ t = .byte ∨ t = .char ∨ t = .short) (hd : decode c.code pc = .ok (.ireturn, 1)) (hK : cells ≤ K) (hN : slots ≤ N) (eT : T.heap = h) (hQ : Q (some (.int z)) h locs) : Go p.tables e below (FinS s Z EL h0 Q K N) T (mkF m pc Ls (.int z :: rest)) :=
  Go.endS X hlk hS hk A hZ hEL hK hN eT (fun q => by rw [hret] at q; cases q) hQ fun _ hr => retOut X hx hret hn (Or.inl ⟨rfl, ht, z, rfl⟩) hd hr
theorem Go.retAS {Q : Option Value → Heap → List Loc → Prop} {K N : Nat} (X : Stand p l e R (s.setVm vm0) m args below meth c T locs cells slots) (hx : p.tables.exec = Jvm.exec) (hlk : meth.locks = false) (hS : s.Since vm0 k0) (hk : k0 ≤ h.size) (A : CHr Z EL s.vm h0 vm0 h) (hZ : Z.Warmed39 vm0) (hEL : EW Z a0 EL) {pc : Nat} {Ls : Array Slot} {w : Value} {t : FieldType} {rest : List Value} (hret : meth.sig.returnType = some t)
    (ht : t.isReference = true) (hw : w.isRef = true) (hd : decode c.code pc = .ok (.areturn, 1)) (hK : cells ≤ K) (hN : slots ≤ N) (eT : T.heap = h) (hQ : Q (some w) h locs) : Go p.tables e below (FinS s Z EL h0 Q K N) T (mkF m pc Ls (w :: rest)) :=
  Go.endS X hlk hS hk A hZ hEL hK hN eT (fun q => by rw [hret] at q; cases q) hQ fun _ hr => retOut X hx hret (narrow_ref ht) (Or.inr (Or.inr (Or.inr (Or.inr ⟨rfl, ht, hw⟩)))) hd hr
theorem Go.retVS {Q : Option Value → Heap → List Loc → Prop} {K N : Nat} (X : Stand p l e R (s.setVm vm0) m args below meth c T locs cells slots) (hx : p.tables.exec = Jvm.exec) (hlk : meth.locks = false) (hS : s.Since vm0 k0) (hk : k0 ≤ h.size) (A : CHr Z EL s.vm h0 vm0 h) (hZ : Z.Warmed39 vm0) (hEL : EW Z a0 EL) {pc : Nat} {Ls : Array Slot} (hret : meth.sig.returnType = none)
    (hd : decode c.code pc = .ok (.return_, 1)) (hK : cells ≤ K) (hN : slots ≤ N) (eT : T.heap = h) (hQ : Q none h locs) : Go p.tables e below (FinS s Z EL h0 Q K N) T (mkF m pc Ls []) :=
  Go.endS X hlk hS hk A hZ hEL hK hN eT (fun _ => rfl) hQ fun _ hr => X.returnOut hx hret hd hr
/-- a body's contract where it may intern: the booked constants say their texts before and behind it -/
def ConS (l : Launch) (Z : State) (EL : List (String × Nat)) (y : MethodName) (bytes : ByteArray) (maxL : Nat) (ret : Option FieldType) (ws : List Cond) (rm : Room) (as' : Array Value) (h0 : Heap) (sl : List Addr) (Q : Option Value → Heap → List Loc → Prop) : Prop :=
  MetFree l y (head1 (Cond.code y bytes maxL ret :: ws) rm) (fun a U => a = as' ∧ Z.Warmed39 U.vm ∧ U.heap = h0 ∧ CHv Z EL U.vm h0 ∧ ∀ x ∈ sl, Safe Z EL U.vm h0 x) (fun _ _ _ _ _ => True) (fun _ U o U' => ∃ v L, o = .returned v ∧ Q v U'.heap L ∧ CHr Z EL U.vm U.heap U'.vm U'.heap ∧ ReturnedEndW U o U' L rm.cells rm.slots)
theorem ConS.enter {y : MethodName} {bytes : ByteArray} {maxL : Nat} {ret : Option FieldType} {ws : List Cond} {rm : Room} {as' : Array Value} {h0 : Heap} {sl : List Addr} {Q : Option Value → Heap → List Loc → Prop} (hp : plainFor y = true)
    (H : ∀ (p : Program) (e : Env) (s : State) (m : MethodId) (below : List Frame) (meth : Method) (c : Code) (s₁ : State), Stand p l e rm (s.setVm s.vm) m as' below meth c s₁ [] 0 0 → p.tables.exec = Jvm.exec → Z.Warmed39 s.vm → c.code = bytes → c.maxLocals = maxL → meth.sig.returnType = ret → meth.locks = false → s.vm.findClass y.cls = some m.cls → meth.name = y.name → s₁.heap = h0 → s.Since s.vm 0 → CHr Z EL s.vm h0 s.vm h0 → (∀ x ∈ sl, Safe Z EL s.vm h0 x) →
      Go p.tables e below (FinS s Z EL h0 Q rm.cells rm.slots) s₁ (entryFrame m as' maxL)) : ConS l Z EL y bytes maxL ret ws rm as' h0 sl Q := by
  refine MetFree.of_bodySF hp hisR ?_
  intro p e s m args below meth c s₁ Bd hml0 hP hK
  obtain ⟨rfl, hZ, hh, hC, hsf⟩ := hP
  obtain ⟨u, o, g1, g2, g3, v, L, g4, g5, g6, g7⟩ := H p e s m below meth c s₁ (Stand.of_body Bd) Bd.exec hZ Bd.bytes hml0 Bd.returns Bd.notSynchronized (findClass_of_methodNamed Bd.named) (name_of_methodNamed Bd.named Bd.method).1 (by rw [← hh, Bd.state]; rfl) ((State.WarmedH.refl s).since 0) (CHr.refl hC) hsf
  exact ⟨u, o, g1, g2, g3, v, L, g4, g5, by rw [hh]; exact g6, g7⟩
variable {y z : MethodName} {bytes : ByteArray} {maxL : Nat} {ret : Option FieldType} {rm : Room} {as' : Array Value} {sl : List Addr} {Q : Option Value → Heap → List Loc → Prop} {W len : Nat} {own C owner : String} {index : Nat} {argsL rest : List Value}
theorem backSL (hM : ConS l Z EL y bytes maxL ret [] rm as' h sl Q) (hZ : Z.Warmed39 vm0) (wc : (Cond.code y bytes maxL ret).before a0 Z = true) (wz : (Cond.initialized y.cls).before a0 Z = true) (hf : rm.frames + 1 ≤ R.frames) (hl : W + (maxL + 11) + rm.locals ≤ R.locals) (hEL : EW Z a0 EL) (H : CHv Z EL vm0 h) (hsf : ∀ x ∈ sl, x < h.size ∧ Safe Z EL vm0 h x) :
    BackS l R p e below (s.setVm vm0) args y len W (fun A a => a = as' ∧ A.U.heap = h ∧ A.cells + rm.cells ≤ R.cells ∧ A.slots + rm.slots ≤ R.slots)
      (fun A _ v B => ∃ L, Q v B.U.heap L ∧ B.locs = A.locs ++ L ∧ B.cells = A.cells + rm.cells ∧ B.slots = A.slots + rm.slots ∧ CHr Z EL vm0 h B.U.vm B.U.heap) := by
  refine BackS.of_freeW (bytes := bytes) (maxL := maxL) (ret := ret) (E := fun _ first o t L k n => k = rm.cells ∧ n = rm.slots ∧ (∃ v, o = .returned v ∧ Q v t.heap L) ∧ CHr Z EL first.vm first.heap t.vm t.heap) hM hf hl ?_ ?_ (fun _ _ _ _ _ _ _ _ _ => trivial) ?_ ?_
  · intro m meth c A a Y hp
    have hU : Z.Warmed39 A.U.vm := wtrans (s := s.setVm vm0) hZ Y.warmed
    exact ⟨by show (Cond.and _ .tt).before a A.U = true; rw [Cond.before_and, mv hU wc]; rfl, mv hU wc, mv hU wz, hp.2.2.1, hp.2.2.2⟩
  · intro m meth c A a g mk Y hp
    have q := CHv.at Y hZ hEL H
    exact ⟨hp.1, wtrans (s := s.setVm vm0) hZ Y.warmed, hp.2.1, q.1, fun x hx => q.safe (hsf x hx).1 (hsf x hx).2⟩
  · rintro _ _ _ _ ⟨v, L, h1, h2, h3, h4⟩
    exact ⟨L, _, _, h4, rfl, rfl, ⟨v, h1, h2⟩, h3⟩
  · rintro m meth c A a g mk v t L k n Y hp _ _ ⟨e1, e2, ⟨v', e3, e4⟩, e5⟩
    cases e3; subst e1 e2
    refine ⟨L, e4, rfl, rfl, rfl, (CHv.at Y hZ hEL H).trans ?_⟩
    rw [← hp.2.1]; exact e5
theorem Go.backS {n : Nat} (hZ : Z.Warmed39 vm0) (hown : vm0.findClass own = some m.cls) (hS : s.Since vm0 k0) (hk : k0 ≤ h.size) (eT : T.heap = h)
    (H : ∃ (v : Option Value) (vm₁ : Vm) (B : Pt), (s.setVm vm0).WarmedH vm₁ ∧ Stand p l e R ((s.setVm vm0).setVm B.U.vm) m args below meth c B.U B.locs B.cells B.slots ∧ (s.setVm vm0).Since B.U.vm B.U.heap.size ∧ T.heap.size ≤ B.U.heap.size ∧ (∃ L, Q v B.U.heap L ∧ B.locs = locs ++ L ∧ B.cells = cells + rm.cells ∧ B.slots = slots + rm.slots ∧ CHr Z EL vm0 h B.U.vm B.U.heap) ∧
      Steps p.tables e below (T.setTop g) (B.U.setTop { g with pc := g.pc + n, stack := v.toList ++ rest }))
    (k : ∀ (v : Option Value) (T' : State) (h' : Heap) (L : List Loc), Stand p l e R (s.setVm T'.vm) m args below meth c T' (locs ++ L) (cells + rm.cells) (slots + rm.slots) → T'.heap = h' → Q v h' L → s.Since T'.vm h'.size → Z.Warmed39 T'.vm → T'.vm.findClass own = some m.cls → CHr Z EL vm0 h T'.vm h' → Go p.tables e below P T' { g with pc := g.pc + n, stack := v.toList ++ rest }) : Go p.tables e below P T g := by
  obtain ⟨v, _, ⟨U, L1, k1, n1⟩, -, X', hS2, hge, ⟨L, hQ, e1, e2, e3, hC⟩, st⟩ := H
  have e1' : L1 = locs ++ L := e1
  have e2' : k1 = cells + rm.cells := e2
  have e3' : n1 = slots + rm.slots := e3
  subst e1' e2' e3'
  exact Go.tr st (k v U _ L X' rfl hQ (foldS (T := T) hS (by rw [eT]; exact hk) hS2 hge) (State.Warmed39.trans (t := s.setVm vm0) hZ hS2.1) (by rw [hS2.1.alike.findClass]; exact hown) hC)
theorem Go.callStS (X : Stand p l e R (s.setVm vm0) m args below meth c T locs cells slots) (hx : p.tables.exec = Jvm.exec) (hZ : Z.Warmed39 vm0) (hown : vm0.findClass own = some m.cls) (eT : T.heap = h) (hEL : EW Z a0 EL) (HC : CHv Z EL vm0 h) (hS : s.Since vm0 k0) (hk : k0 ≤ h.size)
    (w1 : (Cond.methodLink own index y).before a0 Z = true) (w2 : (Cond.static y).before a0 Z = true) (w3 : (Cond.initialized y.cls).before a0 Z = true) (w4 : (Cond.code y bytes maxL ret).before a0 Z = true) (hy : y.cls ≠ "java/lang/invoke/MethodHandle" ∧ y.cls ≠ "java/lang/invoke/VarHandle")
    (hM : ConS l Z EL y bytes maxL ret [] rm as' h sl Q) (hsf : ∀ x ∈ sl, x < h.size ∧ Safe Z EL vm0 h x) (ha : argsL.toArray = as') (hlen : ∀ sig, parseMethodDescriptor y.desc = some sig → argsL.length = sig.parameters.length) (hg : g.method = m) (hsize : g.locals.size = c.maxLocals) (hst : g.stack = argsL.reverse ++ rest)
    (hW : 2 * g.monitorRoom + (rest.map fun v => v.category).sum ≤ W) (hf : rm.frames + 1 ≤ R.frames) (hl : W + (maxL + 11) + rm.locals ≤ R.locals) (hc : cells + rm.cells ≤ R.cells) (hs : slots + rm.slots ≤ R.slots) (hd : decode c.code g.pc = .ok (.invokestatic index, 3))
    (k : ∀ (v : Option Value) (T' : State) (h' : Heap) (L : List Loc), Stand p l e R (s.setVm T'.vm) m args below meth c T' (locs ++ L) (cells + rm.cells) (slots + rm.slots) → T'.heap = h' → Q v h' L → s.Since T'.vm h'.size → Z.Warmed39 T'.vm → T'.vm.findClass own = some m.cls → CHr Z EL vm0 h T'.vm h' → Go p.tables e below P T' { g with pc := g.pc + 3, stack := v.toList ++ rest }) : Go p.tables e below P T g :=
  Go.backS hZ hown hS hk eT (callSS X hx (y := y) (bytes := bytes) (maxL := maxL) (ret := ret) hown (mvT (s := s.setVm vm0) hZ w1) (mvT (s := s.setVm vm0) hZ w2) (mvT (s := s.setVm vm0) hZ w3) (mvT (s := s.setVm vm0) hZ w4) hy (backSL (W := W) (a0 := a0) hM hZ w4 w3 hf hl hEL HC hsf) (g := g) hg hsize (argsL := argsL) (rest := rest) hlen hst hW hd (fun _ _ => ⟨ha, eT, hc, hs⟩)) k
theorem Go.callSpS (X : Stand p l e R (s.setVm vm0) m args below meth c T locs cells slots) (hx : p.tables.exec = Jvm.exec) (hZ : Z.Warmed39 vm0) (hown : vm0.findClass own = some m.cls) (eT : T.heap = h) (hEL : EW Z a0 EL) (HC : CHv Z EL vm0 h) (hS : s.Since vm0 k0) (hk : k0 ≤ h.size) (hy1 : y.name = "<init>")
    (w1 : (Cond.methodLink own index y).before a0 Z = true) (w2 : (Cond.instanceMethod y).before a0 Z = true) (w3 : (Cond.initialized y.cls).before a0 Z = true) (w4 : (Cond.code y bytes maxL none).before a0 Z = true) (hy : y.cls ≠ "java/lang/invoke/MethodHandle" ∧ y.cls ≠ "java/lang/invoke/VarHandle")
    {a : Addr} (hM : ConS l Z EL y bytes maxL none [] rm as' h sl Q) (hsf : ∀ x ∈ sl, x < h.size ∧ Safe Z EL vm0 h x) (ha : (Value.ref a :: argsL).toArray = as') (hlen : ∀ sig, parseMethodDescriptor y.desc = some sig → argsL.length = sig.parameters.length) (hg : g.method = m) (hsize : g.locals.size = c.maxLocals) (hst : g.stack = argsL.reverse ++ .ref a :: rest)
    (hW : 2 * g.monitorRoom + (rest.map fun v => v.category).sum ≤ W) (hf : rm.frames + 1 ≤ R.frames) (hl : W + (maxL + 11) + rm.locals ≤ R.locals) (hc : cells + rm.cells ≤ R.cells) (hs : slots + rm.slots ≤ R.slots) (hd : decode c.code g.pc = .ok (.invokespecial index, 3))
    (k : ∀ (v : Option Value) (T' : State) (h' : Heap) (L : List Loc), Stand p l e R (s.setVm T'.vm) m args below meth c T' (locs ++ L) (cells + rm.cells) (slots + rm.slots) → T'.heap = h' → Q v h' L → s.Since T'.vm h'.size → Z.Warmed39 T'.vm → T'.vm.findClass own = some m.cls → CHr Z EL vm0 h T'.vm h' → Go p.tables e below P T' { g with pc := g.pc + 3, stack := v.toList ++ rest }) : Go p.tables e below P T g :=
  Go.backS hZ hown hS hk eT (X.specialBackS hx (y := y) hy1 hown (mvT (s := s.setVm vm0) hZ w1) (mvT (s := s.setVm vm0) hZ w2) (mvT (s := s.setVm vm0) hZ w4) hy (backSL (W := W) (a0 := a0) hM hZ w4 w3 hf hl hEL HC hsf) (g := g) hg hsize (Steps.refl _) (a := a) (argsL := argsL) (rest := rest) hlen hst hW hd (fun _ _ => ⟨ha, eT, hc, hs⟩)) k
theorem Go.callVS (X : Stand p l e R (s.setVm vm0) m args below meth c T locs cells slots) (hx : p.tables.exec = Jvm.exec) (hZ : Z.Warmed39 vm0) (hown : vm0.findClass own = some m.cls) (eT : T.heap = h) (hEL : EW Z a0 EL) (HC : CHv Z EL vm0 h) (hS : s.Since vm0 k0) (hk : k0 ≤ h.size)
    (w1 : (Cond.methodLink own index y).before a0 Z = true) (w2 : (Cond.declares y).before a0 Z = true) (w5 : (Cond.selects C y z).before a0 Z = true) (w6 : (Cond.instanceMethod z).before a0 Z = true) (w3 : (Cond.initialized z.cls).before a0 Z = true) (w4 : (Cond.code z bytes maxL ret).before a0 Z = true)
    (hnf : NotFace (s.setVm vm0) y) (hy : y.cls ≠ "java/lang/invoke/MethodHandle" ∧ y.cls ≠ "java/lang/invoke/VarHandle")
    {a : Addr} (E : Exa Z h a C) (hM : ConS l Z EL z bytes maxL ret [] rm as' h sl Q) (hsf : ∀ x ∈ sl, x < h.size ∧ Safe Z EL vm0 h x) (ha : (Value.ref a :: argsL).toArray = as') (hlen : ∀ sig, parseMethodDescriptor y.desc = some sig → argsL.length = sig.parameters.length) (hg : g.method = m) (hsize : g.locals.size = c.maxLocals) (hst : g.stack = argsL.reverse ++ .ref a :: rest)
    (hW : 2 * g.monitorRoom + (rest.map fun v => v.category).sum ≤ W) (hf : rm.frames + 1 ≤ R.frames) (hl : W + (maxL + 11) + rm.locals ≤ R.locals) (hc : cells + rm.cells ≤ R.cells) (hs : slots + rm.slots ≤ R.slots) (hd : decode c.code g.pc = .ok (.invokevirtual index, 3))
    (k : ∀ (v : Option Value) (T' : State) (h' : Heap) (L : List Loc), Stand p l e R (s.setVm T'.vm) m args below meth c T' (locs ++ L) (cells + rm.cells) (slots + rm.slots) → T'.heap = h' → Q v h' L → s.Since T'.vm h'.size → Z.Warmed39 T'.vm → T'.vm.findClass own = some m.cls → CHr Z EL vm0 h T'.vm h' → Go p.tables e below P T' { g with pc := g.pc + 3, stack := v.toList ++ rest }) : Go p.tables e below P T g := by
  obtain ⟨cq, kq, qa, qb, qc⟩ := isOf (s := s.setVm vm0) hZ eT E
  exact Go.backS hZ hown hS hk eT (X.virtualBackS hx (y := y) (z := z) hown (mvT (s := s.setVm vm0) hZ w1) (mvT (s := s.setVm vm0) hZ w2) hnf (mvT (s := s.setVm vm0) hZ w5) (mvT (s := s.setVm vm0) hZ w6) hy (backSL (W := W) (a0 := a0) hM hZ w4 w3 hf hl hEL HC hsf) qa qc (g := g) hg hsize (Steps.refl _) (argsL := argsL) (rest := rest) hlen hst hW hd (fun _ _ => ⟨ha, eT, hc, hs⟩)) k
theorem chrE {vm1 : Vm} (A : CHr Z EL vm0 h0 vm1 h) (E : Ext h h') : CHr Z EL vm0 h0 vm1 h' := A.trans (CHr.ext E A.1)
theorem chrW {vm1 : Vm} {a : Addr} {sl : Nat} {v : Value} (A : CHr Z EL vm0 h0 vm1 h) (W : Wr h h' a sl v) (S : Safe Z EL vm1 h a) : CHr Z EL vm0 h0 vm1 h' := A.trans (CHr.wr W S A.1)
theorem chrK {vm1 : Vm} {ws : List Addr} (A : CHr Z EL vm0 h0 vm1 h) (K : Keep h h' ws) (S : ∀ x ∈ ws, Safe Z EL vm1 h x) : CHr Z EL vm0 h0 vm1 h' := A.trans (CHr.keep K S A.1)
end OwnS
end Jvm.RoadKit
namespace Jvm.Pilot.@@N@@
open Jvm Jvm.ClassFile Sem Op Lib Jvm.Free Jvm.Stand Jvm.LawKit Jvm.RoadKit Bundle Jvm.Pilot.@@N@@.Jvm.D
def EL0 : List (String × Nat) := [("com/example/payment_retry_queue/paymentretryqueue/AttemptAnswer", 29), ("java/lang/String", 7)]
theorem w19 {a0 : Array Value} {Z : State} (hw : ∀ d ∈ tables_1, d.before a0 Z = true) : ((Jvm.Cond.stringLink "java/lang/String" (7 : Nat) "")).before a0 Z = true := hw _ (List.mem_of_getElem? (i := 19) rfl)
theorem w36 {a0 : Array Value} {Z : State} (hw : ∀ d ∈ tables_1, d.before a0 Z = true) : ((Jvm.Cond.stringLink "com/example/payment_retry_queue/paymentretryqueue/AttemptAnswer" (29 : Nat) "reference")).before a0 Z = true := hw _ (List.mem_of_getElem? (i := 36) rfl)
theorem hEL0 {a0 : Array Value} {Z : State} (hw : ∀ d ∈ tables_1, d.before a0 Z = true) : EW Z a0 EL0 := (EW.cons (w36 hw) (by decide) (EW.cons (w19 hw) (by decide) EW.nil))
theorem hSt0 {a0 : Array Value} {Z : State} (hw : ∀ d ∈ tables_1, d.before a0 Z = true) : ∀ a ∈ Bundle.stringAtoms, a.before a0 Z = true := fun d hd => hw d ((by decide +kernel : ∀ d ∈ Bundle.stringAtoms, d ∈ tables_1) d hd)
theorem own_oflt {i n : Nat} (h : i < n) (hn : n < 2 ^ 31) : Int32.ofNat i < Int32.ofNat n := by
  rw [Int32.lt_iff_toInt_lt, Int32.toInt_ofNat_of_lt (by omega), Int32.toInt_ofNat_of_lt (by omega)]; omega
theorem own_ofnl {i n : Nat} (h : ¬ i < n) (hi : i < 2 ^ 31) (hn : n < 2 ^ 31) : ¬ Int32.ofNat i < Int32.ofNat n := by
  rw [Int32.lt_iff_toInt_lt, Int32.toInt_ofNat_of_lt (by omega), Int32.toInt_ofNat_of_lt (by omega)]; omega
theorem own_ofn0 {i : Nat} (hi : i < 2 ^ 31) : ¬ Int32.ofNat i < 0 := by
  rw [Int32.lt_iff_toInt_lt, Int32.toInt_ofNat_of_lt (by omega)]; have : (0 : Int32).toInt = 0 := rfl; omega
theorem own_ofinj {i n : Nat} (hi : i < 2 ^ 31) (hn : n < 2 ^ 31) (h : Int32.ofNat i = Int32.ofNat n) : i = n := by
  have q := congrArg Int32.toInt h
  rw [Int32.toInt_ofNat_of_lt (by omega), Int32.toInt_ofNat_of_lt (by omega)] at q; omega
theorem own_clamp {i : Nat} (hi : i < 2 ^ 31) : (Int32.ofNat i).toNatClampNeg = i := by
  have q : (Int32.ofNat i).toInt = i := Int32.toInt_ofNat_of_lt (by omega)
  simp [Int32.toNatClampNeg, q]
theorem own_getD (bs : List Int32) (i : Nat) : (bs.map Value.int).getD i (.int (0 : Int32)) = .int (bs.getD i 0) := by
  simp only [List.getD_eq_getElem?_getD, List.getElem?_map]
  cases bs[i]? <;> rfl
theorem own_take {bs ds : List Int32} {i : Nat} (h1 : i < bs.length) (h2 : i < ds.length) (h : bs.take i = ds.take i) (q : bs.getD i 0 = ds.getD i 0) : bs.take (i + 1) = ds.take (i + 1) := by
  have a1 : bs.getD i 0 = bs[i] := by simp [List.getD_eq_getElem?_getD, h1]
  have a2 : ds.getD i 0 = ds[i] := by simp [List.getD_eq_getElem?_getD, h2]
  rw [List.take_succ_eq_append_getElem h1, List.take_succ_eq_append_getElem h2, h, ← a1, ← a2, q]
theorem own_one (i : Nat) : Int32.ofNat i + (1 : Int32) = Int32.ofNat (i + 1) := (Int32.ofNat_add i 1).symm
theorem own_shr0 (x : Int32) : x >>> ((0 : Int32) &&& 31) = x := Int32.toInt_inj.mp (by rw [c_ishr x 0 0 (by decide)]; simp)
def Enc (n : Nat) (cs xs : List Int32) (cd : Int32) : Prop :=
  (cd = 0 ∧ xs.length = n ∧ (∀ i, i < n → ¬ (255 : Int32) < cs.getD i 0) ∧ ∀ i, i < n → xs.getD i 0 = ((cs.getD i 0).toInt8.toInt32)) ∨
  (cd = 1 ∧ xs.length = 2 * n ∧ (∃ i, i < n ∧ (255 : Int32) < cs.getD i 0) ∧ ∀ i, i < n → xs.getD (2 * i) 0 = ((cs.getD i 0).toInt8.toInt32) ∧ xs.getD (2 * i + 1) 0 = (((cs.getD i 0) >>> ((8 : Int32) &&& 31)).toInt8.toInt32))
def StrC (Z : State) (h : Heap) (a : Addr) (n : Nat) (cs : List Int32) : Prop := ∃ (cd : Int32) (xs : List Int32), Enc n cs xs cd ∧ StrB Z h a cd xs
theorem Enc.cd {n : Nat} {cs xs : List Int32} {cd : Int32} (H : Enc n cs xs cd) : cd = 0 ∨ cd = 1 := by
  rcases H with ⟨h, -⟩ | ⟨h, -⟩
  · exact Or.inl h
  · exact Or.inr h
theorem Enc.len {n : Nat} {cs xs : List Int32} {cd : Int32} (H : Enc n cs xs cd) (hn : n < 2 ^ 30) : xs.length < 2 ^ 31 := by
  rcases H with ⟨-, h, -⟩ | ⟨-, h, -⟩ <;> omega
theorem StrC.ext {Z : State} {h h' : Heap} {a : Addr} {n : Nat} {cs : List Int32} (F : StrC Z h a n cs) (E : Ext h h') : StrC Z h' a n cs := by
  obtain ⟨cd, xs, h1, h2⟩ := F
  exact ⟨cd, xs, h1, h2.ext E⟩
theorem StrC.exa {Z : State} {h : Heap} {a : Addr} {n : Nat} {cs : List Int32} (F : StrC Z h a n cs) : Exa Z h a "java/lang/String" := by
  obtain ⟨cd, xs, h1, h2⟩ := F
  exact h2.exa
theorem StrC.wrO {Z : State} {h h' : Heap} {a0 : Array Value} {a b : Addr} {sl : Nat} {v : Value} {C : String} {kk : Nat} {n : Nat} {cs : List Int32} (F : StrC Z h a n cs) (E : Exa Z h b C) (hC : C ≠ "java/lang/String") (wi : (Cond.instantiable C kk).before a0 Z = true) (W : Wr h h' b sl v) : StrC Z h' a n cs := by
  obtain ⟨cd, xs, h1, h2⟩ := F
  exact ⟨cd, xs, h1, h2.wrO E hC wi W⟩
theorem StrC.keepO {Z : State} {h h' : Heap} {a0 : Array Value} {a b : Addr} {C : String} {kk : Nat} {n : Nat} {cs : List Int32} (F : StrC Z h a n cs) (E : Exa Z h b C) (hC : C ≠ "java/lang/String") (wi : (Cond.instantiable C kk).before a0 Z = true) (K : Keep h h' [b]) : StrC Z h' a n cs := by
  obtain ⟨cd, xs, h1, h2⟩ := F
  exact ⟨cd, xs, h1, h2.keepO E hC wi K⟩
theorem own_rg {cs : List Int32} {i n : Nat} (hr : ∀ c ∈ cs, 0 ≤ c.toInt ∧ c.toInt < 65536) (hl : cs.length = n) (hi : i < n) : 0 ≤ (cs.getD i 0).toInt ∧ (cs.getD i 0).toInt < 65536 := by
  have e : cs.getD i 0 = cs[i] := by simp [List.getD_eq_getElem?_getD, hl, hi]
  rw [e]; exact hr _ (List.getElem_mem (by omega))
theorem own_cc {c : Int32} (h : 0 ≤ c.toInt ∧ c.toInt < 65536) : ((((c.toInt8.toInt32 &&& (255 : Int32)) <<< ((0 : Int32) &&& 31)) ||| (((c >>> ((8 : Int32) &&& 31)).toInt8.toInt32 &&& (255 : Int32)) <<< ((8 : Int32) &&& 31))).toUInt32.toUInt16.toUInt32.toInt32) = c := by
  apply Int32.toInt_inj.mp
  have b1 := c_i2b c
  have s8 := c_ishr c 8 8 (by decide)
  have b2 := c_i2b (c >>> ((8 : Int32) &&& 31))
  generalize (c >>> ((8 : Int32) &&& 31)).toInt8.toInt32 = y at *
  generalize c.toInt8.toInt32 = x at *
  have m1 := c_mask x 255 8 (by decide) (by decide)
  have m2 := c_mask y 255 8 (by decide) (by decide)
  generalize x &&& 255 = u at *
  generalize y &&& 255 = t at *
  have l1 := c_ishl u 0 0 (by decide)
  have l2 := c_ishl t 8 8 (by decide)
  generalize u <<< ((0 : Int32) &&& 31) = p at *
  generalize t <<< ((8 : Int32) &&& 31) = q at *
  have r1 := rng32 p
  have r2 := rng32 q
  have o := c_or' p q 8 (by decide) 256 (by decide) (by omega) (by omega) (by omega)
  have r3 := rng32 (p ||| q)
  have i := c_i2c (p ||| q)
  omega
theorem own_u8c {c : Int32} (h : 0 ≤ c.toInt ∧ c.toInt < 65536) (h2 : ¬ (255 : Int32) < c) : ((c.toInt8.toInt32 &&& (255 : Int32)).toUInt32.toUInt16.toUInt32.toInt32) = c := by
  apply Int32.toInt_inj.mp
  have q : ¬ (255 : Int32).toInt < c.toInt := fun z => h2 (Int32.lt_iff_toInt_lt.mpr z)
  have k : (255 : Int32).toInt = 255 := by decide
  have b1 := c_i2b c
  generalize c.toInt8.toInt32 = x at *
  have m1 := c_mask x 255 8 (by decide) (by decide)
  have i := c_i2c (x &&& 255)
  omega
theorem own_shl1 {n : Nat} (h : n < 2 ^ 30) : (Int32.ofNat n) <<< ((1 : Int32) &&& 31) = Int32.ofNat (2 * n) := by
  apply Int32.toInt_inj.mp
  have l := c_ishl (Int32.ofNat n) 1 1 (by decide)
  have r := rng32 ((Int32.ofNat n) <<< ((1 : Int32) &&& 31))
  have e1 : (Int32.ofNat n).toInt = n := Int32.toInt_ofNat_of_lt (by omega)
  have e2 : (Int32.ofNat (2 * n)).toInt = (2 * n : Nat) := Int32.toInt_ofNat_of_lt (by omega)
  omega
theorem own_shr1 {n : Nat} (h : n < 2 ^ 30) : (Int32.ofNat (2 * n)) >>> ((1 : Int32) &&& 31) = Int32.ofNat n := by
  apply Int32.toInt_inj.mp
  have l := c_ishr (Int32.ofNat (2 * n)) 1 1 (by decide)
  have e1 : (Int32.ofNat n).toInt = n := Int32.toInt_ofNat_of_lt (by omega)
  have e2 : (Int32.ofNat (2 * n)).toInt = (2 * n : Nat) := Int32.toInt_ofNat_of_lt (by omega)
  omega
theorem own_cod {n : Nat} {cs xs : List Int32} {cd : Int32} (H : Enc n cs xs cd) (h0 : 0 < n) (hn : n < 2 ^ 30) : (((Int32.ofNat n - Int32.ofNat xs.length).toUInt32 >>> ((31 : Int32) &&& 31).toUInt32).toInt32).toInt8.toInt32 = cd := by
  have e1 : (Int32.ofNat n).toInt = n := Int32.toInt_ofNat_of_lt (by omega)
  have e2 : (Int32.ofNat xs.length).toInt = (xs.length : Nat) := Int32.toInt_ofNat_of_lt (H.len hn)
  have s := c_isub (Int32.ofNat n) (Int32.ofNat xs.length)
  have r := rng32 (Int32.ofNat n - Int32.ofNat xs.length)
  generalize Int32.ofNat n - Int32.ofNat xs.length = y at *
  have u := c_iushr y 31 31 (by decide) (by decide)
  generalize (y.toUInt32 >>> ((31 : Int32) &&& 31).toUInt32).toInt32 = t at *
  have b := c_i2b t
  have k0 : (0 : Int32).toInt = 0 := by decide
  have k1 : (1 : Int32).toInt = 1 := by decide
  apply Int32.toInt_inj.mp
  rcases H with ⟨h, hl, -⟩ | ⟨h, hl, -⟩ <;> rw [h] <;> omega
theorem own_lenC {n : Nat} {cs xs : List Int32} {cd : Int32} (H : Enc n cs xs cd) (hn : n < 2 ^ 30) : (Int32.ofNat xs.length) >>> (cd &&& 31) = Int32.ofNat n := by
  rcases H with ⟨h, hl, -⟩ | ⟨h, hl, -⟩ <;> rw [h, hl]
  · exact own_shr0 _
  · exact own_shr1 hn
theorem own_inv {P : Nat → Int32 → Prop} {xs : List Int32} {i : Nat} {x : Int32} (H : ∀ j, j < i → P j (xs.getD j 0)) (hi : i < xs.length) (hp : P i x) : ∀ j, j < i + 1 → P j ((xs.set i x).getD j 0) := by
  intro j hj
  by_cases q : j = i
  · subst q; rw [List.getD_eq_getElem?_getD, List.getElem?_set_self hi]; exact hp
  · rw [List.getD_eq_getElem?_getD, List.getElem?_set_ne (Ne.symm q), ← List.getD_eq_getElem?_getD]; exact H j (by omega)
theorem own_inv2 {P : Nat → Int32 → Int32 → Prop} {xs : List Int32} {i : Nat} {x y : Int32} (H : ∀ j, j < i → P j (xs.getD (2 * j) 0) (xs.getD (2 * j + 1) 0)) (hi : 2 * i + 1 < xs.length) (hp : P i x y) : ∀ j, j < i + 1 → P j (((xs.set (2 * i) x).set (2 * i + 1) y).getD (2 * j) 0) (((xs.set (2 * i) x).set (2 * i + 1) y).getD (2 * j + 1) 0) := by
  intro j hj
  simp only [List.getD_eq_getElem?_getD] at H ⊢
  by_cases q : j = i
  · subst q
    rw [List.getElem?_set_ne (by omega), List.getElem?_set_self (by omega), List.getElem?_set_self (by rw [List.length_set]; omega)]; exact hp
  · rw [List.getElem?_set_ne (by omega), List.getElem?_set_ne (by omega), List.getElem?_set_ne (by omega), List.getElem?_set_ne (by omega)]; exact H j (by omega)
theorem own_narB {cd : Int32} (h : cd = 0 ∨ cd = 1) : narrow .byte (.int cd) = .int cd := by rcases h with rfl | rfl <;> rfl
theorem own_fitB {cd : Int32} (h : cd = 0 ∨ cd = 1) : fits .byte (.int cd) = true := by rcases h with rfl | rfl <;> rfl
theorem own_posn {n : Nat} (h0 : 0 < n) (hn : n < 2 ^ 30) : ¬ Int32.ofNat n = 0 := fun q => by
  have := own_ofinj (i := n) (n := 0) (by omega) (by decide) q
  omega
theorem own_newA {Z : State} {h : Heap} {a : Addr} {k : ClassId} {n : Nat} (A : Arr Z h a (newA k .byte (Int32.ofNat n)) .byte) (hn : n < 2 ^ 31) : Arv Z h a k .byte (Int32.ofNat n) ((List.replicate n (0 : Int32)).map Value.int) (.int (0 : Int32)) := by
  rw [List.map_replicate]
  exact (Arv.new A (own_ofn0 hn)).pad (pad_rep [] (.int (0 : Int32)) n)
theorem d19_0 : decode jdk_52_method_21_code 0 = .ok (.iconst 0, 1) := by decide +kernel
theorem d19_1 : decode jdk_52_method_21_code 1 = .ok (.istore 5, 2) := by decide +kernel
theorem d19_3 : decode jdk_52_method_21_code 3 = .ok (.iload 5, 2) := by decide +kernel
theorem d19_5 : decode jdk_52_method_21_code 5 = .ok (.iload 4, 2) := by decide +kernel
theorem d19_7 : decode jdk_52_method_21_code 7 = .ok (.if_icmp .ge 37, 3) := by decide +kernel
theorem d19_44 : decode jdk_52_method_21_code 44 = .ok (.iload 4, 2) := by decide +kernel
theorem d19_46 : decode jdk_52_method_21_code 46 = .ok (.ireturn, 1) := by decide +kernel
theorem d19_10 : decode jdk_52_method_21_code 10 = .ok (.aload_n 0, 1) := by decide +kernel
theorem d19_11 : decode jdk_52_method_21_code 11 = .ok (.iload_n 1, 1) := by decide +kernel
theorem d19_12 : decode jdk_52_method_21_code 12 = .ok (.caload, 1) := by decide +kernel
theorem d19_13 : decode jdk_52_method_21_code 13 = .ok (.istore 6, 2) := by decide +kernel
theorem d19_15 : decode jdk_52_method_21_code 15 = .ok (.iload 6, 2) := by decide +kernel
theorem d19_17 : decode jdk_52_method_21_code 17 = .ok (.sipush 255, 3) := by decide +kernel
theorem d19_20 : decode jdk_52_method_21_code 20 = .ok (.if_icmp .le 6, 3) := by decide +kernel
theorem d19_23 : decode jdk_52_method_21_code 23 = .ok (.iload 5, 2) := by decide +kernel
theorem d19_25 : decode jdk_52_method_21_code 25 = .ok (.ireturn, 1) := by decide +kernel
theorem d19_26 : decode jdk_52_method_21_code 26 = .ok (.aload_n 2, 1) := by decide +kernel
theorem d19_27 : decode jdk_52_method_21_code 27 = .ok (.iload_n 3, 1) := by decide +kernel
theorem d19_28 : decode jdk_52_method_21_code 28 = .ok (.iload 6, 2) := by decide +kernel
theorem d19_30 : decode jdk_52_method_21_code 30 = .ok (.i2b, 1) := by decide +kernel
theorem d19_31 : decode jdk_52_method_21_code 31 = .ok (.bastore, 1) := by decide +kernel
theorem d19_32 : decode jdk_52_method_21_code 32 = .ok (.iinc 1 1, 3) := by decide +kernel
theorem d19_35 : decode jdk_52_method_21_code 35 = .ok (.iinc 3 1, 3) := by decide +kernel
theorem d19_38 : decode jdk_52_method_21_code 38 = .ok (.iinc 5 1, 3) := by decide +kernel
theorem d19_41 : decode jdk_52_method_21_code 41 = .ok (.goto (-38), 3) := by decide +kernel
def rr_cmp5W : Room := { frames := 0, cells := 0, slots := 0, locals := 0 }
theorem pn0 : plainName "java/lang/StringUTF16" = true := by first | (simp [plainName, overriddenIn]; done) | decide +kernel
set_option maxRecDepth 65536 in
set_option maxHeartbeats 40000000 in
theorem rm_cmp5W (l : Launch) (Z : State) (a0 : Array Value) (hw : ∀ d ∈ tables_1, d.before a0 Z = true) (ws : List Jvm.Cond) (b d : Addr) (kC kB : ClassId) (cs xs0 : List Int32) (n : Nat) (h0 : Heap) (n0 : Nat) (Z0 : n0 ≤ h0.size) (VC : Arv Z h0 b kC .char (Int32.ofNat n) (cs.map Value.int) (.int (0 : Int32))) (VB : Arv Z h0 d kB .byte (Int32.ofNat n) (xs0.map Value.int) (.int (0 : Int32))) (hbd : b ≠ d) (gd : n0 ≤ d) (hxs : xs0.length = n) (hcs : cs.length = n) (hn : n < 2 ^ 30) :
    Con l Z (⟨"java/lang/StringUTF16", "compress", "([CI[BII)I"⟩ : MethodName) jdk_52_method_21_code 7 (some .int) ws rr_cmp5W #[(.ref b), (.int (0 : Int32)), (.ref d), (.int (0 : Int32)), (.int (Int32.ofNat n))] h0 (fun v h L => ∃ j : Nat, v = some (.int (Int32.ofNat j)) ∧ j ≤ n ∧ (j < n → (255 : Int32) < cs.getD j 0) ∧ (∀ i, i < j → ¬ (255 : Int32) < cs.getD i 0) ∧ Fr n0 L ∧ Keep h0 h [d] ∧ ∃ xs : List Int32, xs.length = n ∧ Arv Z h d kB .byte (Int32.ofNat n) (xs.map Value.int) (.int (0 : Int32)) ∧ ∀ i, i < j → xs.getD i 0 = ((cs.getD i 0).toInt8.toInt32)) := by
  refine Con.enter (plainFor_of_name pn0) ?_
  intro p e s m below meth c s₁ X0 hx hZ hby hml hret hlk hown hnm e0
  have N0 := Fr.nil n0
  refine Go.cast (g' := (mkF m 0 #[.val (.ref b), .val (.int (0 : Int32)), .val (.ref d), .val (.int (0 : Int32)), .val (.int (Int32.ofNat n)), .unset, .unset] [])) (by first | rfl | (simp [entryFrame, mkF, argsToLocals, Value.category]; done)) ?_
  refine Go.st (T' := s₁) (g' := (mkF m 1 #[.val (.ref b), .val (.int (0 : Int32)), .val (.ref d), .val (.int (0 : Int32)), .val (.int (Int32.ofNat n)), .unset, .unset] [(.int (0 : Int32))])) (fun _ zk => XS.iconst X0.here hx rfl (hb hby d19_0) zk) ?_
  refine Go.st (T' := s₁) (g' := (mkF m 3 #[.val (.ref b), .val (.int (0 : Int32)), .val (.ref d), .val (.int (0 : Int32)), .val (.int (Int32.ofNat n)), .val (.int (0 : Int32)), .unset] [])) (fun _ zk => XS.istore X0.here hx rfl (hb hby d19_1) rfl (l' := #[.val (.ref b), .val (.int (0 : Int32)), .val (.ref d), .val (.int (0 : Int32)), .val (.int (Int32.ofNat n)), .val (.int (0 : Int32)), .unset]) rfl zk) ?_
  have loop : ∀ (q i : Nat), i + q = n → ∀ (T : State) (lc : List Loc) (hL : Heap) (xs : List Int32) (s6 : Slot), (s6 = .unset ∨ ∃ x, s6 = .val (.int x)) → Stand p l e rr_cmp5W s m #[(.ref b), (.int 0), (.ref d), (.int 0), (.int (Int32.ofNat n))] below meth c T lc 0 0 → T.heap = hL → Fr n0 lc → Keep h0 hL [d] → xs.length = n → Arv Z hL d kB .byte (Int32.ofNat n) (xs.map Value.int) (.int (0 : Int32)) → (∀ j, j < i → ¬ (255 : Int32) < cs.getD j 0 ∧ xs.getD j 0 = ((cs.getD j 0).toInt8.toInt32)) → Go p.tables e below (FinP s (fun v h L => ∃ j : Nat, v = some (.int (Int32.ofNat j)) ∧ j ≤ n ∧ (j < n → (255 : Int32) < cs.getD j 0) ∧ (∀ i, i < j → ¬ (255 : Int32) < cs.getD i 0) ∧ Fr n0 L ∧ Keep h0 h [d] ∧ ∃ xs : List Int32, xs.length = n ∧ Arv Z h d kB .byte (Int32.ofNat n) (xs.map Value.int) (.int (0 : Int32)) ∧ ∀ i, i < j → xs.getD i 0 = ((cs.getD i 0).toInt8.toInt32)) rr_cmp5W.cells rr_cmp5W.slots) T (mkF m 3 #[.val (.ref b), .val (.int (Int32.ofNat i)), .val (.ref d), .val (.int (Int32.ofNat i)), .val (.int (Int32.ofNat n)), .val (.int (Int32.ofNat i)), s6] []) := by
    intro q
    induction q with
    | zero =>
      intro i hi T lc hL xs s6 hs6 XL eL NL KL hl VL inv
      refine Go.st (T' := T) (g' := (mkF m 5 #[.val (.ref b), .val (.int (Int32.ofNat i)), .val (.ref d), .val (.int (Int32.ofNat i)), .val (.int (Int32.ofNat n)), .val (.int (Int32.ofNat i)), s6] [(.int (Int32.ofNat i))])) (fun _ zk => XS.iload XL.here hx rfl (hb hby d19_3) rfl zk) ?_
      refine Go.st (T' := T) (g' := (mkF m 7 #[.val (.ref b), .val (.int (Int32.ofNat i)), .val (.ref d), .val (.int (Int32.ofNat i)), .val (.int (Int32.ofNat n)), .val (.int (Int32.ofNat i)), s6] [(.int (Int32.ofNat n)), (.int (Int32.ofNat i))])) (fun _ zk => XS.iload XL.here hx rfl (hb hby d19_5) rfl zk) ?_
      refine Go.st (T' := T) (g' := (mkF m 44 #[.val (.ref b), .val (.int (Int32.ofNat i)), .val (.ref d), .val (.int (Int32.ofNat i)), .val (.int (Int32.ofNat n)), .val (.int (Int32.ofNat i)), s6] [])) (fun _ zk => XS.icmpYes XL.here hx rfl (pc0 := 7) (pc' := 44) rfl (hb hby d19_7) rfl (flt (own_ofnl (by omega) (by omega) (by omega) : ¬ ((Int32.ofNat i) < (Int32.ofNat n)))).2.1 (by decide) (by decide) zk) ?_
      refine Go.st (T' := T) (g' := (mkF m 46 #[.val (.ref b), .val (.int (Int32.ofNat i)), .val (.ref d), .val (.int (Int32.ofNat i)), .val (.int (Int32.ofNat n)), .val (.int (Int32.ofNat i)), s6] [(.int (Int32.ofNat n))])) (fun _ zk => XS.iload XL.here hx rfl (hb hby d19_44) rfl zk) ?_
      refine Go.retN XL hx hlk hret rfl (by simp) (hb hby d19_46) (by decide) (by decide) eL ?_
      exact ⟨n, rfl, Nat.le_refl _, fun q => absurd q (Nat.lt_irrefl _), fun j q => (inv j (by omega)).1, NL, ((Keep.refl h0 [d]).trans KL (allS (P := fun x => x ∈ [d] ∨ h0.size ≤ x) (Or.inl (List.mem_of_getElem? (i := 0) rfl)) all0)), xs, hl, VL, fun j q => (inv j (by omega)).2⟩
    | succ q ih =>
      intro i hi T lc hL xs s6 hs6 XL eL NL KL hl VL inv
      refine Go.st (T' := T) (g' := (mkF m 5 #[.val (.ref b), .val (.int (Int32.ofNat i)), .val (.ref d), .val (.int (Int32.ofNat i)), .val (.int (Int32.ofNat n)), .val (.int (Int32.ofNat i)), s6] [(.int (Int32.ofNat i))])) (fun _ zk => XS.iload XL.here hx rfl (hb hby d19_3) rfl zk) ?_
      refine Go.st (T' := T) (g' := (mkF m 7 #[.val (.ref b), .val (.int (Int32.ofNat i)), .val (.ref d), .val (.int (Int32.ofNat i)), .val (.int (Int32.ofNat n)), .val (.int (Int32.ofNat i)), s6] [(.int (Int32.ofNat n)), (.int (Int32.ofNat i))])) (fun _ zk => XS.iload XL.here hx rfl (hb hby d19_5) rfl zk) ?_
      refine Go.st (T' := T) (g' := (mkF m 10 #[.val (.ref b), .val (.int (Int32.ofNat i)), .val (.ref d), .val (.int (Int32.ofNat i)), .val (.int (Int32.ofNat n)), .val (.int (Int32.ofNat i)), s6] [])) (fun _ zk => XS.icmpNo XL.here hx rfl (hb hby d19_7) rfl (tlt (own_oflt (by omega) (by omega) : (Int32.ofNat i) < (Int32.ofNat n))).2.1 zk) ?_
      refine Go.st (T' := T) (g' := (mkF m 11 #[.val (.ref b), .val (.int (Int32.ofNat i)), .val (.ref d), .val (.int (Int32.ofNat i)), .val (.int (Int32.ofNat n)), .val (.int (Int32.ofNat i)), s6] [(.ref b)])) (fun _ zk => XS.aloadN XL.here hx rfl (hb hby d19_10) rfl rfl zk) ?_
      refine Go.st (T' := T) (g' := (mkF m 12 #[.val (.ref b), .val (.int (Int32.ofNat i)), .val (.ref d), .val (.int (Int32.ofNat i)), .val (.int (Int32.ofNat n)), .val (.int (Int32.ofNat i)), s6] [(.int (Int32.ofNat i)), (.ref b)])) (fun _ zk => XS.iloadN XL.here hx rfl (hb hby d19_11) rfl zk) ?_
      have f1 := (VC.keep KL (ninS hbd nin0))
      refine Go.st (T' := T) (g' := (mkF m 13 #[.val (.ref b), .val (.int (Int32.ofNat i)), .val (.ref d), .val (.int (Int32.ofNat i)), .val (.int (Int32.ofNat n)), .val (.int (Int32.ofNat i)), s6] [(.int (cs.getD i 0))])) (fun _ zk => ldCV XL hx hZ eL f1 (j := (Int32.ofNat i)) ⟨own_ofn0 (by omega), own_oflt (by omega) (by omega)⟩ (v := (.int (cs.getD i 0))) (by rw [own_clamp (by omega)]; exact own_getD _ _) (g := (mkF m 12 #[.val (.ref b), .val (.int (Int32.ofNat i)), .val (.ref d), .val (.int (Int32.ofNat i)), .val (.int (Int32.ofNat n)), .val (.int (Int32.ofNat i)), s6] [(.int (Int32.ofNat i)), (.ref b)])) rfl (rest := []) rfl (hb hby d19_12) zk) ?_
      refine Go.st (T' := T) (g' := (mkF m 15 #[.val (.ref b), .val (.int (Int32.ofNat i)), .val (.ref d), .val (.int (Int32.ofNat i)), .val (.int (Int32.ofNat n)), .val (.int (Int32.ofNat i)), .val (.int (cs.getD i 0))] [])) (fun _ zk => XS.istore XL.here hx rfl (hb hby d19_13) rfl (l' := #[.val (.ref b), .val (.int (Int32.ofNat i)), .val (.ref d), .val (.int (Int32.ofNat i)), .val (.int (Int32.ofNat n)), .val (.int (Int32.ofNat i)), .val (.int (cs.getD i 0))]) (by rcases hs6 with rfl | ⟨x6, rfl⟩ <;> rfl) zk) ?_
      refine Go.st (T' := T) (g' := (mkF m 17 #[.val (.ref b), .val (.int (Int32.ofNat i)), .val (.ref d), .val (.int (Int32.ofNat i)), .val (.int (Int32.ofNat n)), .val (.int (Int32.ofNat i)), .val (.int (cs.getD i 0))] [(.int (cs.getD i 0))])) (fun _ zk => XS.iload XL.here hx rfl (hb hby d19_15) rfl zk) ?_
      refine Go.st (T' := T) (g' := (mkF m 20 #[.val (.ref b), .val (.int (Int32.ofNat i)), .val (.ref d), .val (.int (Int32.ofNat i)), .val (.int (Int32.ofNat n)), .val (.int (Int32.ofNat i)), .val (.int (cs.getD i 0))] [(.int (255 : Int32)), (.int (cs.getD i 0))])) (fun _ zk => XS.sipush XL.here hx rfl (hb hby d19_17) zk) ?_
      by_cases hc20 : (255 : Int32) < (cs.getD i 0)
      · refine Go.st (T' := T) (g' := (mkF m 23 #[.val (.ref b), .val (.int (Int32.ofNat i)), .val (.ref d), .val (.int (Int32.ofNat i)), .val (.int (Int32.ofNat n)), .val (.int (Int32.ofNat i)), .val (.int (cs.getD i 0))] [])) (fun _ zk => XS.icmpNo XL.here hx rfl (hb hby d19_20) rfl (tlt hc20).2.2.2 zk) ?_
        refine Go.st (T' := T) (g' := (mkF m 25 #[.val (.ref b), .val (.int (Int32.ofNat i)), .val (.ref d), .val (.int (Int32.ofNat i)), .val (.int (Int32.ofNat n)), .val (.int (Int32.ofNat i)), .val (.int (cs.getD i 0))] [(.int (Int32.ofNat i))])) (fun _ zk => XS.iload XL.here hx rfl (hb hby d19_23) rfl zk) ?_
        refine Go.retN XL hx hlk hret rfl (by simp) (hb hby d19_25) (by decide) (by decide) eL ?_
        exact ⟨i, rfl, by omega, fun _ => hc20, fun j q => (inv j q).1, NL, ((Keep.refl h0 [d]).trans KL (allS (P := fun x => x ∈ [d] ∨ h0.size ≤ x) (Or.inl (List.mem_of_getElem? (i := 0) rfl)) all0)), xs, hl, VL, fun j q => (inv j q).2⟩
      · refine Go.st (T' := T) (g' := (mkF m 26 #[.val (.ref b), .val (.int (Int32.ofNat i)), .val (.ref d), .val (.int (Int32.ofNat i)), .val (.int (Int32.ofNat n)), .val (.int (Int32.ofNat i)), .val (.int (cs.getD i 0))] [])) (fun _ zk => XS.icmpYes XL.here hx rfl (pc0 := 20) (pc' := 26) rfl (hb hby d19_20) rfl (flt hc20).2.2.2 (by decide) (by decide) zk) ?_
        refine Go.st (T' := T) (g' := (mkF m 27 #[.val (.ref b), .val (.int (Int32.ofNat i)), .val (.ref d), .val (.int (Int32.ofNat i)), .val (.int (Int32.ofNat n)), .val (.int (Int32.ofNat i)), .val (.int (cs.getD i 0))] [(.ref d)])) (fun _ zk => XS.aloadN XL.here hx rfl (hb hby d19_26) rfl rfl zk) ?_
        refine Go.st (T' := T) (g' := (mkF m 28 #[.val (.ref b), .val (.int (Int32.ofNat i)), .val (.ref d), .val (.int (Int32.ofNat i)), .val (.int (Int32.ofNat n)), .val (.int (Int32.ofNat i)), .val (.int (cs.getD i 0))] [(.int (Int32.ofNat i)), (.ref d)])) (fun _ zk => XS.iloadN XL.here hx rfl (hb hby d19_27) rfl zk) ?_
        refine Go.st (T' := T) (g' := (mkF m 30 #[.val (.ref b), .val (.int (Int32.ofNat i)), .val (.ref d), .val (.int (Int32.ofNat i)), .val (.int (Int32.ofNat n)), .val (.int (Int32.ofNat i)), .val (.int (cs.getD i 0))] [(.int (cs.getD i 0)), (.int (Int32.ofNat i)), (.ref d)])) (fun _ zk => XS.iload XL.here hx rfl (hb hby d19_28) rfl zk) ?_
        refine Go.st (T' := T) (g' := (mkF m 31 #[.val (.ref b), .val (.int (Int32.ofNat i)), .val (.ref d), .val (.int (Int32.ofNat i)), .val (.int (Int32.ofNat n)), .val (.int (Int32.ofNat i)), .val (.int (cs.getD i 0))] [(.int ((cs.getD i 0).toInt8.toInt32)), (.int (Int32.ofNat i)), (.ref d)])) (fun _ zk => XS.i2b XL.here hx rfl (hb hby d19_30) rfl zk) ?_
        obtain ⟨T2, h2, X2, e2, W2, V2, st2⟩ := stBV XL hx hZ eL VL (j := (Int32.ofNat i)) (i := i) ⟨own_ofn0 (by omega), own_oflt (by omega) (by omega)⟩ (own_clamp (by omega)) (by simp only [List.length_map, List.length_set]; omega) (g := (mkF m 31 #[.val (.ref b), .val (.int (Int32.ofNat i)), .val (.ref d), .val (.int (Int32.ofNat i)), .val (.int (Int32.ofNat n)), .val (.int (Int32.ofNat i)), .val (.int (cs.getD i 0))] [(.int ((cs.getD i 0).toInt8.toInt32)), (.int (Int32.ofNat i)), (.ref d)])) rfl rfl (hb hby d19_31)
        rw [nar_b, ← List.map_set] at V2
        have N2 := Fr.snoc X2 NL gd
        refine Go.st (T' := T2) (g' := (mkF m 32 #[.val (.ref b), .val (.int (Int32.ofNat i)), .val (.ref d), .val (.int (Int32.ofNat i)), .val (.int (Int32.ofNat n)), .val (.int (Int32.ofNat i)), .val (.int (cs.getD i 0))] [])) (fun _ zk => st2 _ zk) ?_
        refine Go.st (T' := T2) (g' := (mkF m 35 #[.val (.ref b), .val (.int ((Int32.ofNat i) + (1 : Int32))), .val (.ref d), .val (.int (Int32.ofNat i)), .val (.int (Int32.ofNat n)), .val (.int (Int32.ofNat i)), .val (.int (cs.getD i 0))] [])) (fun _ zk => XS.iinc X2.here hx rfl (hb hby d19_32) rfl (l' := #[.val (.ref b), .val (.int ((Int32.ofNat i) + (1 : Int32))), .val (.ref d), .val (.int (Int32.ofNat i)), .val (.int (Int32.ofNat n)), .val (.int (Int32.ofNat i)), .val (.int (cs.getD i 0))]) rfl zk) ?_
        refine Go.st (T' := T2) (g' := (mkF m 38 #[.val (.ref b), .val (.int ((Int32.ofNat i) + (1 : Int32))), .val (.ref d), .val (.int ((Int32.ofNat i) + (1 : Int32))), .val (.int (Int32.ofNat n)), .val (.int (Int32.ofNat i)), .val (.int (cs.getD i 0))] [])) (fun _ zk => XS.iinc X2.here hx rfl (hb hby d19_35) rfl (l' := #[.val (.ref b), .val (.int ((Int32.ofNat i) + (1 : Int32))), .val (.ref d), .val (.int ((Int32.ofNat i) + (1 : Int32))), .val (.int (Int32.ofNat n)), .val (.int (Int32.ofNat i)), .val (.int (cs.getD i 0))]) rfl zk) ?_
        refine Go.st (T' := T2) (g' := (mkF m 41 #[.val (.ref b), .val (.int ((Int32.ofNat i) + (1 : Int32))), .val (.ref d), .val (.int ((Int32.ofNat i) + (1 : Int32))), .val (.int (Int32.ofNat n)), .val (.int ((Int32.ofNat i) + (1 : Int32))), .val (.int (cs.getD i 0))] [])) (fun _ zk => XS.iinc X2.here hx rfl (hb hby d19_38) rfl (l' := #[.val (.ref b), .val (.int ((Int32.ofNat i) + (1 : Int32))), .val (.ref d), .val (.int ((Int32.ofNat i) + (1 : Int32))), .val (.int (Int32.ofNat n)), .val (.int ((Int32.ofNat i) + (1 : Int32))), .val (.int (cs.getD i 0))]) rfl zk) ?_
        refine Go.st (T' := T2) (g' := (mkF m 3 #[.val (.ref b), .val (.int ((Int32.ofNat i) + (1 : Int32))), .val (.ref d), .val (.int ((Int32.ofNat i) + (1 : Int32))), .val (.int (Int32.ofNat n)), .val (.int ((Int32.ofNat i) + (1 : Int32))), .val (.int (cs.getD i 0))] [])) (fun _ zk => XS.goto X2.here hx rfl (pc0 := 41) (pc' := 3) rfl (hb hby d19_41) (by decide) (by decide) zk) ?_
        rw [own_one]
        exact ih (i + 1) (by omega) _ _ _ _ _ (Or.inr ⟨_, rfl⟩) X2 e2 N2 (((Keep.refl h0 [d]).trans KL (allS (P := fun x => x ∈ [d] ∨ h0.size ≤ x) (Or.inl (List.mem_of_getElem? (i := 0) rfl)) all0)).wr W2 (Or.inl (List.mem_of_getElem? (i := 0) rfl))) (by rw [List.length_set]; exact hl) V2 (own_inv (P := fun j x => ¬ (255 : Int32) < cs.getD j 0 ∧ x = ((cs.getD j 0).toInt8.toInt32)) inv (by omega) ⟨hc20, rfl⟩)
  exact loop n 0 (by omega) _ _ _ _ _ (Or.inl rfl) X0 e0 N0 (Keep.refl h0 [d]) hxs VB (fun j q => absurd q (Nat.not_lt_zero _))
theorem d28_0 : decode jdk_52_method_3_code 0 = .ok (.iload_n 0, 1) := by decide +kernel
theorem d28_1 : decode jdk_52_method_3_code 1 = .ok (.ifCond .ge 11, 3) := by decide +kernel
theorem d28_12 : decode jdk_52_method_3_code 12 = .ok (.iload_n 0, 1) := by decide +kernel
theorem d28_13 : decode jdk_52_method_3_code 13 = .ok (.ldc 20, 2) := by decide +kernel
theorem w149 {a0 : Array Value} {Z : State} (hw : ∀ d ∈ tables_1, d.before a0 Z = true) : ((Jvm.Cond.constant "java/lang/StringUTF16" (20 : Nat) (1073741823 : Int32))).before a0 Z = true := hw _ (List.mem_of_getElem? (i := 149) rfl)
theorem d28_15 : decode jdk_52_method_3_code 15 = .ok (.if_icmp .lt 40, 3) := by decide +kernel
theorem d28_55 : decode jdk_52_method_3_code 55 = .ok (.iload_n 0, 1) := by decide +kernel
theorem d28_56 : decode jdk_52_method_3_code 56 = .ok (.iconst 1, 1) := by decide +kernel
theorem d28_57 : decode jdk_52_method_3_code 57 = .ok (.ishl, 1) := by decide +kernel
theorem d28_58 : decode jdk_52_method_3_code 58 = .ok (.ireturn, 1) := by decide +kernel
def rr_nblW : Room := { frames := 0, cells := 0, slots := 0, locals := 0 }
set_option maxRecDepth 65536 in
set_option maxHeartbeats 40000000 in
theorem rm_nblW (l : Launch) (Z : State) (a0 : Array Value) (hw : ∀ d ∈ tables_1, d.before a0 Z = true) (ws : List Jvm.Cond) (n : Nat) (h0 : Heap) (n0 : Nat) (Z0 : n0 ≤ h0.size) (hn : n < 2 ^ 30) (hn' : n < 1073741823) :
    Con l Z (⟨"java/lang/StringUTF16", "newBytesLength", "(I)I"⟩ : MethodName) jdk_52_method_3_code 1 (some .int) ws rr_nblW #[(.int (Int32.ofNat n))] h0 (fun v h L => v = some (.int (Int32.ofNat (2 * n))) ∧ Fr n0 L ∧ h = h0) := by
  refine Con.enter (plainFor_of_name pn0) ?_
  intro p e s m below meth c s₁ X0 hx hZ hby hml hret hlk hown hnm e0
  have N0 := Fr.nil n0
  refine Go.cast (g' := (mkF m 0 #[.val (.int (Int32.ofNat n))] [])) (by first | rfl | (simp [entryFrame, mkF, argsToLocals, Value.category]; done)) ?_
  refine Go.st (T' := s₁) (g' := (mkF m 1 #[.val (.int (Int32.ofNat n))] [(.int (Int32.ofNat n))])) (fun _ zk => XS.iloadN X0.here hx rfl (hb hby d28_0) rfl zk) ?_
  refine Go.st (T' := s₁) (g' := (mkF m 12 #[.val (.int (Int32.ofNat n))] [])) (fun _ zk => XS.ifYes X0.here hx rfl (pc0 := 1) (pc' := 12) rfl (hb hby d28_1) rfl ((if0 _ _).trans (flt (own_ofn0 (by omega) : ¬ ((Int32.ofNat n) < (0 : Int32)))).2.1) (by decide) (by decide) zk) ?_
  refine Go.st (T' := s₁) (g' := (mkF m 13 #[.val (.int (Int32.ofNat n))] [(.int (Int32.ofNat n))])) (fun _ zk => XS.iloadN X0.here hx rfl (hb hby d28_12) rfl zk) ?_
  refine Go.st (T' := s₁) (g' := (mkF m 15 #[.val (.int (Int32.ofNat n))] [(.int (1073741823 : Int32)), (.int (Int32.ofNat n))])) (fun _ zk => X0.ldcI hx hown (mvT hZ (w149 hw)) rfl (hb hby d28_13) zk) ?_
  refine Go.st (T' := s₁) (g' := (mkF m 55 #[.val (.int (Int32.ofNat n))] [])) (fun _ zk => XS.icmpYes X0.here hx rfl (pc0 := 15) (pc' := 55) rfl (hb hby d28_15) rfl (tlt (own_oflt (i := n) (n := 1073741823) hn' (by decide) : (Int32.ofNat n) < (1073741823 : Int32))).1 (by decide) (by decide) zk) ?_
  refine Go.st (T' := s₁) (g' := (mkF m 56 #[.val (.int (Int32.ofNat n))] [(.int (Int32.ofNat n))])) (fun _ zk => XS.iloadN X0.here hx rfl (hb hby d28_55) rfl zk) ?_
  refine Go.st (T' := s₁) (g' := (mkF m 57 #[.val (.int (Int32.ofNat n))] [(.int (1 : Int32)), (.int (Int32.ofNat n))])) (fun _ zk => XS.iconst X0.here hx rfl (hb hby d28_56) zk) ?_
  refine Go.st (T' := s₁) (g' := (mkF m 58 #[.val (.int (Int32.ofNat n))] [(.int ((Int32.ofNat n) <<< ((1 : Int32) &&& 31)))])) (fun _ zk => XS.ishl X0.here hx rfl (hb hby d28_57) rfl zk) ?_
  rw [own_shl1 hn]
  refine Go.retN X0 hx hlk hret rfl (by simp) (hb hby d28_58) (by decide) (by decide) e0 ?_
  exact ⟨rfl, N0, rfl⟩
theorem d27_0 : decode jdk_52_method_2_code 0 = .ok (.iload_n 0, 1) := by decide +kernel
theorem w148 {a0 : Array Value} {Z : State} (hw : ∀ d ∈ tables_1, d.before a0 Z = true) : ((Jvm.Cond.code ({ cls := "java/lang/StringUTF16", name := "newBytesLength", desc := "(I)I" } : Jvm.MethodName) jdk_52_method_3_code (1 : Nat) (Option.some Jvm.ClassFile.FieldType.int))).before a0 Z = true := hw _ (List.mem_of_getElem? (i := 148) rfl)
theorem w110 {a0 : Array Value} {Z : State} (hw : ∀ d ∈ tables_1, d.before a0 Z = true) : ((Jvm.Cond.initialized "java/lang/StringUTF16")).before a0 Z = true := hw _ (List.mem_of_getElem? (i := 110) rfl)
theorem pd1 : parseMethodDescriptor "(I)I" = some ⟨[.int], some .int⟩ := by decide +kernel
theorem d27_1 : decode jdk_52_method_2_code 1 = .ok (.invokestatic 11, 3) := by decide +kernel
theorem w146 {a0 : Array Value} {Z : State} (hw : ∀ d ∈ tables_1, d.before a0 Z = true) : ((Jvm.Cond.methodLink "java/lang/StringUTF16" (11 : Nat) ({ cls := "java/lang/StringUTF16", name := "newBytesLength", desc := "(I)I" } : Jvm.MethodName))).before a0 Z = true := hw _ (List.mem_of_getElem? (i := 146) rfl)
theorem w147 {a0 : Array Value} {Z : State} (hw : ∀ d ∈ tables_1, d.before a0 Z = true) : ((Jvm.Cond.static ({ cls := "java/lang/StringUTF16", name := "newBytesLength", desc := "(I)I" } : Jvm.MethodName))).before a0 Z = true := hw _ (List.mem_of_getElem? (i := 147) rfl)
theorem w20 {a0 : Array Value} {Z : State} (hw : ∀ d ∈ tables_1, d.before a0 Z = true) : ((Jvm.Cond.arrayClass Jvm.ClassFile.FieldType.byte)).before a0 Z = true := hw _ (List.mem_of_getElem? (i := 20) rfl)
theorem d27_4 : decode jdk_52_method_2_code 4 = .ok (.newarray .byte, 2) := by decide +kernel
theorem d27_6 : decode jdk_52_method_2_code 6 = .ok (.areturn, 1) := by decide +kernel
def rr_nbfW : Room := { frames := 1, cells := 1, slots := 6, locals := 12 }
set_option maxRecDepth 65536 in
set_option maxHeartbeats 40000000 in
theorem rm_nbfW (l : Launch) (Z : State) (a0 : Array Value) (hw : ∀ d ∈ tables_1, d.before a0 Z = true) (ws : List Jvm.Cond) (n : Nat) (h0 : Heap) (n0 : Nat) (Z0 : n0 ≤ h0.size) (hcap : n ≤ 3) (hn : n < 2 ^ 30) :
    Con l Z (⟨"java/lang/StringUTF16", "newBytesFor", "(I)[B"⟩ : MethodName) jdk_52_method_2_code 1 (some (.array .byte)) ws rr_nbfW #[(.int (Int32.ofNat n))] h0 (fun v h L => ∃ (t : Addr) (k : ClassId), v = some (.ref t) ∧ Fr n0 L ∧ Ext h0 h ∧ h0.size ≤ t ∧ Arv Z h t k .byte (Int32.ofNat (2 * n)) ((List.replicate (2 * n) (0 : Int32)).map Value.int) (.int (0 : Int32))) := by
  refine Con.enter (plainFor_of_name pn0) ?_
  intro p e s m below meth c s₁ X0 hx hZ hby hml hret hlk hown hnm e0
  have N0 := Fr.nil n0
  refine Go.cast (g' := (mkF m 0 #[.val (.int (Int32.ofNat n))] [])) (by first | rfl | (simp [entryFrame, mkF, argsToLocals, Value.category]; done)) ?_
  refine Go.st (T' := s₁) (g' := (mkF m 1 #[.val (.int (Int32.ofNat n))] [(.int (Int32.ofNat n))])) (fun _ zk => XS.iloadN X0.here hx rfl (hb hby d27_0) rfl zk) ?_
  refine Go.callSt (y := (⟨"java/lang/StringUTF16", "newBytesLength", "(I)I"⟩ : MethodName)) X0 hx hZ hown e0 (w146 hw) (w147 hw) (w110 hw) (w148 hw) (by decide) (argsL := [(.int (Int32.ofNat n))]) (rest := []) (W := 0) (rm_nblW l Z a0 hw [] n h0 n0 Z0 hn (by omega)) rfl (lenOf pd1 rfl) rfl (by rw [hml]; rfl) rfl (by show 2 * 0 + _ ≤ _; exact Nat.le_of_eq rfl) (by decide) (by decide) (by decide) (by decide) (hb hby d27_1) ?_
  intro v1 T1 h1 L1 X1 e1 q1
  obtain ⟨hv1, Nf1, hh1⟩ := q1
  subst hv1
  have E1 : T1.heap = h0 := e1.trans hh1
  have N1 := Fr.app N0 Nf1
  show Go p.tables e below _ T1 (mkF m 4 #[.val (.int (Int32.ofNat n))] [(.int (Int32.ofNat (2 * n)))])
  obtain ⟨T2, h2, k2, X2, e2, E2, A2, st2⟩ := newP (aty := .byte) X1 hx hZ (w20 hw) E1 (g := (mkF m 4 #[.val (.int (Int32.ofNat n))] [(.int (Int32.ofNat (2 * n)))])) rfl (hb hby d27_4) rfl (own_ofn0 (by omega)) (cap := 6) (by rw [own_clamp (by omega)]; exact (by omega)) (by decide) (by decide) (by decide)
  obtain ⟨b2, g2⟩ : ∃ z, z = h0.size := ⟨_, rfl⟩
  rw [← g2] at A2 st2
  have V2 := own_newA A2 (by omega)
  refine Go.st (T' := T2) (g' := (mkF m 6 #[.val (.int (Int32.ofNat n))] [(.ref b2)])) (fun _ zk => st2 _ zk) ?_
  have xt3 : Ext h0 h2 := E2
  refine Go.retA X2 hx hlk hret rfl rfl (hb hby d27_6) (by decide) (by decide) e2 ?_
  exact ⟨_, _, rfl, N1, xt3, (Nat.le_trans (Nat.le_refl _) (Nat.le_of_eq g2.symm)), V2⟩
theorem d29_0 : decode jdk_52_method_4_code 0 = .ok (.getstatic 44, 3) := by decide +kernel
theorem w153 {a0 : Array Value} {Z : State} (hw : ∀ d ∈ tables_1, d.before a0 Z = true) : ((Jvm.Cond.fieldLink "java/lang/StringUTF16" (44 : Nat) "java/lang/StringUTF16" "$assertionsDisabled" "Z")).before a0 Z = true := hw _ (List.mem_of_getElem? (i := 153) rfl)
theorem d29_3 : decode jdk_52_method_4_code 3 = .ok (.ifCond .ne 25, 3) := by decide +kernel
theorem d29_28 : decode jdk_52_method_4_code 28 = .ok (.iload_n 1, 1) := by decide +kernel
theorem d29_29 : decode jdk_52_method_4_code 29 = .ok (.iconst 1, 1) := by decide +kernel
theorem d29_30 : decode jdk_52_method_4_code 30 = .ok (.ishl, 1) := by decide +kernel
theorem d29_31 : decode jdk_52_method_4_code 31 = .ok (.istore_n 1, 1) := by decide +kernel
theorem d29_32 : decode jdk_52_method_4_code 32 = .ok (.aload_n 0, 1) := by decide +kernel
theorem d29_33 : decode jdk_52_method_4_code 33 = .ok (.iload_n 1, 1) := by decide +kernel
theorem d29_34 : decode jdk_52_method_4_code 34 = .ok (.iinc 1 1, 3) := by decide +kernel
theorem d29_37 : decode jdk_52_method_4_code 37 = .ok (.iload_n 2, 1) := by decide +kernel
theorem d29_38 : decode jdk_52_method_4_code 38 = .ok (.getstatic 59, 3) := by decide +kernel
theorem w154 {a0 : Array Value} {Z : State} (hw : ∀ d ∈ tables_1, d.before a0 Z = true) : ((Jvm.Cond.fieldLink "java/lang/StringUTF16" (59 : Nat) "java/lang/StringUTF16" "HI_BYTE_SHIFT" "I")).before a0 Z = true := hw _ (List.mem_of_getElem? (i := 154) rfl)
theorem d29_41 : decode jdk_52_method_4_code 41 = .ok (.ishr, 1) := by decide +kernel
theorem d29_42 : decode jdk_52_method_4_code 42 = .ok (.i2b, 1) := by decide +kernel
theorem d29_43 : decode jdk_52_method_4_code 43 = .ok (.bastore, 1) := by decide +kernel
theorem d29_44 : decode jdk_52_method_4_code 44 = .ok (.aload_n 0, 1) := by decide +kernel
theorem d29_45 : decode jdk_52_method_4_code 45 = .ok (.iload_n 1, 1) := by decide +kernel
theorem d29_46 : decode jdk_52_method_4_code 46 = .ok (.iload_n 2, 1) := by decide +kernel
theorem d29_47 : decode jdk_52_method_4_code 47 = .ok (.getstatic 63, 3) := by decide +kernel
theorem w155 {a0 : Array Value} {Z : State} (hw : ∀ d ∈ tables_1, d.before a0 Z = true) : ((Jvm.Cond.fieldLink "java/lang/StringUTF16" (63 : Nat) "java/lang/StringUTF16" "LO_BYTE_SHIFT" "I")).before a0 Z = true := hw _ (List.mem_of_getElem? (i := 155) rfl)
theorem d29_50 : decode jdk_52_method_4_code 50 = .ok (.ishr, 1) := by decide +kernel
theorem d29_51 : decode jdk_52_method_4_code 51 = .ok (.i2b, 1) := by decide +kernel
theorem d29_52 : decode jdk_52_method_4_code 52 = .ok (.bastore, 1) := by decide +kernel
theorem d29_53 : decode jdk_52_method_4_code 53 = .ok (.return_, 1) := by decide +kernel
def rr_putW : Room := { frames := 0, cells := 0, slots := 0, locals := 0 }
set_option maxRecDepth 65536 in
set_option maxHeartbeats 40000000 in
theorem rm_putW (l : Launch) (Z : State) (a0 : Array Value) (hw : ∀ d ∈ tables_1, d.before a0 Z = true) (ws : List Jvm.Cond) (t : Addr) (k : ClassId) (xs : List Int32) (z i : Nat) (ch : Int32) (h0 : Heap) (n0 : Nat) (Z0 : n0 ≤ h0.size) (O0 : Old Z n0 h0) (V1 : Arv Z h0 t k .byte (Int32.ofNat z) (xs.map Value.int) (.int (0 : Int32))) (gt : n0 ≤ t) (hx0 : xs.length = z) (hz0 : z < 2 ^ 31) (hi : 2 * i + 1 < z) (UA : Sta Z Z.heap "java/lang/StringUTF16" "$assertionsDisabled" "Z" (.int (1 : Int32))) (UH : Sta Z Z.heap "java/lang/StringUTF16" "HI_BYTE_SHIFT" "I" (.int (0 : Int32))) (UL : Sta Z Z.heap "java/lang/StringUTF16" "LO_BYTE_SHIFT" "I" (.int (8 : Int32))) :
    Con l Z (⟨"java/lang/StringUTF16", "putChar", "([BII)V"⟩ : MethodName) jdk_52_method_4_code 3 none ws rr_putW #[(.ref t), (.int (Int32.ofNat i)), (.int ch)] h0 (fun v h L => v = none ∧ Fr n0 L ∧ Keep h0 h [t] ∧ Arv Z h t k .byte (Int32.ofNat z) (((xs.set (2 * i) (ch.toInt8.toInt32)).set (2 * i + 1) ((ch >>> ((8 : Int32) &&& 31)).toInt8.toInt32)).map Value.int) (.int (0 : Int32))) := by
  refine Con.enter (plainFor_of_name pn0) ?_
  intro p e s m below meth c s₁ X0 hx hZ hby hml hret hlk hown hnm e0
  have N0 := Fr.nil n0
  refine Go.cast (g' := (mkF m 0 #[.val (.ref t), .val (.int (Int32.ofNat i)), .val (.int ch)] [])) (by first | rfl | (simp [entryFrame, mkF, argsToLocals, Value.category]; done)) ?_
  obtain ⟨T1, X1, e1, st1⟩ := getS2 X0 hx hZ hown (host := "") (Or.inl (w153 hw)) Via.refl e0 (UA.ext O0.2) (g := (mkF m 0 #[.val (.ref t), .val (.int (Int32.ofNat i)), .val (.int ch)] [])) rfl (hb hby d29_0)
  refine Go.st (T' := T1) (g' := (mkF m 3 #[.val (.ref t), .val (.int (Int32.ofNat i)), .val (.int ch)] [(.int (1 : Int32))])) (fun _ zk => st1 _ zk) ?_
  refine Go.st (T' := T1) (g' := (mkF m 28 #[.val (.ref t), .val (.int (Int32.ofNat i)), .val (.int ch)] [])) (fun _ zk => XS.ifYes X1.here hx rfl (pc0 := 3) (pc' := 28) rfl (hb hby d29_3) rfl ((if0 _ _).trans (feq ((by decide) : ¬ ((1 : Int32) = (0 : Int32)))).2) (by decide) (by decide) zk) ?_
  refine Go.st (T' := T1) (g' := (mkF m 29 #[.val (.ref t), .val (.int (Int32.ofNat i)), .val (.int ch)] [(.int (Int32.ofNat i))])) (fun _ zk => XS.iloadN X1.here hx rfl (hb hby d29_28) rfl zk) ?_
  refine Go.st (T' := T1) (g' := (mkF m 30 #[.val (.ref t), .val (.int (Int32.ofNat i)), .val (.int ch)] [(.int (1 : Int32)), (.int (Int32.ofNat i))])) (fun _ zk => XS.iconst X1.here hx rfl (hb hby d29_29) zk) ?_
  refine Go.st (T' := T1) (g' := (mkF m 31 #[.val (.ref t), .val (.int (Int32.ofNat i)), .val (.int ch)] [(.int ((Int32.ofNat i) <<< ((1 : Int32) &&& 31)))])) (fun _ zk => XS.ishl X1.here hx rfl (hb hby d29_30) rfl zk) ?_
  rw [own_shl1 (by omega)]
  refine Go.st (T' := T1) (g' := (mkF m 32 #[.val (.ref t), .val (.int (Int32.ofNat (2 * i))), .val (.int ch)] [])) (fun _ zk => XS.istoreN X1.here hx rfl (hb hby d29_31) rfl (l' := #[.val (.ref t), .val (.int (Int32.ofNat (2 * i))), .val (.int ch)]) rfl zk) ?_
  refine Go.st (T' := T1) (g' := (mkF m 33 #[.val (.ref t), .val (.int (Int32.ofNat (2 * i))), .val (.int ch)] [(.ref t)])) (fun _ zk => XS.aloadN X1.here hx rfl (hb hby d29_32) rfl rfl zk) ?_
  refine Go.st (T' := T1) (g' := (mkF m 34 #[.val (.ref t), .val (.int (Int32.ofNat (2 * i))), .val (.int ch)] [(.int (Int32.ofNat (2 * i))), (.ref t)])) (fun _ zk => XS.iloadN X1.here hx rfl (hb hby d29_33) rfl zk) ?_
  refine Go.st (T' := T1) (g' := (mkF m 37 #[.val (.ref t), .val (.int ((Int32.ofNat (2 * i)) + (1 : Int32))), .val (.int ch)] [(.int (Int32.ofNat (2 * i))), (.ref t)])) (fun _ zk => XS.iinc X1.here hx rfl (hb hby d29_34) rfl (l' := #[.val (.ref t), .val (.int ((Int32.ofNat (2 * i)) + (1 : Int32))), .val (.int ch)]) rfl zk) ?_
  rw [own_one]
  refine Go.st (T' := T1) (g' := (mkF m 38 #[.val (.ref t), .val (.int (Int32.ofNat (2 * i + 1))), .val (.int ch)] [(.int ch), (.int (Int32.ofNat (2 * i))), (.ref t)])) (fun _ zk => XS.iloadN X1.here hx rfl (hb hby d29_37) rfl zk) ?_
  obtain ⟨T2, X2, e2, st2⟩ := getS2 X1 hx hZ hown (host := "") (Or.inl (w154 hw)) Via.refl e1 (UH.ext O0.2) (g := (mkF m 38 #[.val (.ref t), .val (.int (Int32.ofNat (2 * i + 1))), .val (.int ch)] [(.int ch), (.int (Int32.ofNat (2 * i))), (.ref t)])) rfl (hb hby d29_38)
  refine Go.st (T' := T2) (g' := (mkF m 41 #[.val (.ref t), .val (.int (Int32.ofNat (2 * i + 1))), .val (.int ch)] [(.int (0 : Int32)), (.int ch), (.int (Int32.ofNat (2 * i))), (.ref t)])) (fun _ zk => st2 _ zk) ?_
  refine Go.st (T' := T2) (g' := (mkF m 42 #[.val (.ref t), .val (.int (Int32.ofNat (2 * i + 1))), .val (.int ch)] [(.int (ch >>> ((0 : Int32) &&& 31))), (.int (Int32.ofNat (2 * i))), (.ref t)])) (fun _ zk => XS.ishr X2.here hx rfl (hb hby d29_41) rfl zk) ?_
  rw [own_shr0]
  refine Go.st (T' := T2) (g' := (mkF m 43 #[.val (.ref t), .val (.int (Int32.ofNat (2 * i + 1))), .val (.int ch)] [(.int (ch.toInt8.toInt32)), (.int (Int32.ofNat (2 * i))), (.ref t)])) (fun _ zk => XS.i2b X2.here hx rfl (hb hby d29_42) rfl zk) ?_
  obtain ⟨T3, h3, X3, e3, W3, V3, st3⟩ := stBV X2 hx hZ e2 V1 (j := (Int32.ofNat (2 * i))) (i := (2 * i)) ⟨own_ofn0 (by omega), own_oflt (by omega) (by omega)⟩ (own_clamp (by omega)) (by simp only [List.length_map, List.length_set]; omega) (g := (mkF m 43 #[.val (.ref t), .val (.int (Int32.ofNat (2 * i + 1))), .val (.int ch)] [(.int (ch.toInt8.toInt32)), (.int (Int32.ofNat (2 * i))), (.ref t)])) rfl rfl (hb hby d29_43)
  rw [nar_b, ← List.map_set] at V3
  have N3 := Fr.snoc X3 N0 gt
  refine Go.st (T' := T3) (g' := (mkF m 44 #[.val (.ref t), .val (.int (Int32.ofNat (2 * i + 1))), .val (.int ch)] [])) (fun _ zk => st3 _ zk) ?_
  refine Go.st (T' := T3) (g' := (mkF m 45 #[.val (.ref t), .val (.int (Int32.ofNat (2 * i + 1))), .val (.int ch)] [(.ref t)])) (fun _ zk => XS.aloadN X3.here hx rfl (hb hby d29_44) rfl rfl zk) ?_
  refine Go.st (T' := T3) (g' := (mkF m 46 #[.val (.ref t), .val (.int (Int32.ofNat (2 * i + 1))), .val (.int ch)] [(.int (Int32.ofNat (2 * i + 1))), (.ref t)])) (fun _ zk => XS.iloadN X3.here hx rfl (hb hby d29_45) rfl zk) ?_
  refine Go.st (T' := T3) (g' := (mkF m 47 #[.val (.ref t), .val (.int (Int32.ofNat (2 * i + 1))), .val (.int ch)] [(.int ch), (.int (Int32.ofNat (2 * i + 1))), (.ref t)])) (fun _ zk => XS.iloadN X3.here hx rfl (hb hby d29_46) rfl zk) ?_
  have f5 := (O0.wr W3 gt)
  obtain ⟨T4, X4, e4, st4⟩ := getS2 X3 hx hZ hown (host := "") (Or.inl (w155 hw)) Via.refl e3 (UL.ext f5.2) (g := (mkF m 47 #[.val (.ref t), .val (.int (Int32.ofNat (2 * i + 1))), .val (.int ch)] [(.int ch), (.int (Int32.ofNat (2 * i + 1))), (.ref t)])) rfl (hb hby d29_47)
  refine Go.st (T' := T4) (g' := (mkF m 50 #[.val (.ref t), .val (.int (Int32.ofNat (2 * i + 1))), .val (.int ch)] [(.int (8 : Int32)), (.int ch), (.int (Int32.ofNat (2 * i + 1))), (.ref t)])) (fun _ zk => st4 _ zk) ?_
  refine Go.st (T' := T4) (g' := (mkF m 51 #[.val (.ref t), .val (.int (Int32.ofNat (2 * i + 1))), .val (.int ch)] [(.int (ch >>> ((8 : Int32) &&& 31))), (.int (Int32.ofNat (2 * i + 1))), (.ref t)])) (fun _ zk => XS.ishr X4.here hx rfl (hb hby d29_50) rfl zk) ?_
  refine Go.st (T' := T4) (g' := (mkF m 52 #[.val (.ref t), .val (.int (Int32.ofNat (2 * i + 1))), .val (.int ch)] [(.int ((ch >>> ((8 : Int32) &&& 31)).toInt8.toInt32)), (.int (Int32.ofNat (2 * i + 1))), (.ref t)])) (fun _ zk => XS.i2b X4.here hx rfl (hb hby d29_51) rfl zk) ?_
  obtain ⟨T6, h6, X6, e6, W6, V6, st6⟩ := stBV X4 hx hZ e4 V3 (j := (Int32.ofNat (2 * i + 1))) (i := (2 * i + 1)) ⟨own_ofn0 (by omega), own_oflt (by omega) (by omega)⟩ (own_clamp (by omega)) (by simp only [List.length_map, List.length_set]; omega) (g := (mkF m 52 #[.val (.ref t), .val (.int (Int32.ofNat (2 * i + 1))), .val (.int ch)] [(.int ((ch >>> ((8 : Int32) &&& 31)).toInt8.toInt32)), (.int (Int32.ofNat (2 * i + 1))), (.ref t)])) rfl rfl (hb hby d29_52)
  rw [nar_b, ← List.map_set] at V6
  have N6 := Fr.snoc X6 N3 gt
  refine Go.st (T' := T6) (g' := (mkF m 53 #[.val (.ref t), .val (.int (Int32.ofNat (2 * i + 1))), .val (.int ch)] [])) (fun _ zk => st6 _ zk) ?_
  refine Go.retV X6 hx hlk hret (hb hby d29_53) (by decide) (by decide) e6 ?_
  exact ⟨rfl, N6, (((Keep.refl h0 [t]).wr W3 (Or.inl (List.mem_of_getElem? (i := 0) rfl))).wr W6 (Or.inl (List.mem_of_getElem? (i := 0) rfl))), V6⟩
theorem d26_0 : decode jdk_52_method_14_code 0 = .ok (.iload_n 2, 1) := by decide +kernel
theorem w145 {a0 : Array Value} {Z : State} (hw : ∀ d ∈ tables_1, d.before a0 Z = true) : ((Jvm.Cond.code ({ cls := "java/lang/StringUTF16", name := "newBytesFor", desc := "(I)[B" } : Jvm.MethodName) jdk_52_method_2_code (1 : Nat) (Option.some (Jvm.ClassFile.FieldType.array Jvm.ClassFile.FieldType.byte)))).before a0 Z = true := hw _ (List.mem_of_getElem? (i := 145) rfl)
theorem pd2 : parseMethodDescriptor "(I)[B" = some ⟨[.int], some (.array .byte)⟩ := by decide +kernel
theorem d26_1 : decode jdk_52_method_14_code 1 = .ok (.invokestatic 107, 3) := by decide +kernel
theorem w143 {a0 : Array Value} {Z : State} (hw : ∀ d ∈ tables_1, d.before a0 Z = true) : ((Jvm.Cond.methodLink "java/lang/StringUTF16" (107 : Nat) ({ cls := "java/lang/StringUTF16", name := "newBytesFor", desc := "(I)[B" } : Jvm.MethodName))).before a0 Z = true := hw _ (List.mem_of_getElem? (i := 143) rfl)
theorem w144 {a0 : Array Value} {Z : State} (hw : ∀ d ∈ tables_1, d.before a0 Z = true) : ((Jvm.Cond.static ({ cls := "java/lang/StringUTF16", name := "newBytesFor", desc := "(I)[B" } : Jvm.MethodName))).before a0 Z = true := hw _ (List.mem_of_getElem? (i := 144) rfl)
theorem d26_4 : decode jdk_52_method_14_code 4 = .ok (.astore_n 3, 1) := by decide +kernel
theorem d26_5 : decode jdk_52_method_14_code 5 = .ok (.iconst 0, 1) := by decide +kernel
theorem d26_6 : decode jdk_52_method_14_code 6 = .ok (.istore 4, 2) := by decide +kernel
theorem d26_8 : decode jdk_52_method_14_code 8 = .ok (.iload 4, 2) := by decide +kernel
theorem d26_10 : decode jdk_52_method_14_code 10 = .ok (.iload_n 2, 1) := by decide +kernel
theorem d26_11 : decode jdk_52_method_14_code 11 = .ok (.if_icmp .ge 21, 3) := by decide +kernel
theorem d26_32 : decode jdk_52_method_14_code 32 = .ok (.aload_n 3, 1) := by decide +kernel
theorem d26_33 : decode jdk_52_method_14_code 33 = .ok (.areturn, 1) := by decide +kernel
theorem d26_14 : decode jdk_52_method_14_code 14 = .ok (.aload_n 3, 1) := by decide +kernel
theorem d26_15 : decode jdk_52_method_14_code 15 = .ok (.iload 4, 2) := by decide +kernel
theorem d26_17 : decode jdk_52_method_14_code 17 = .ok (.aload_n 0, 1) := by decide +kernel
theorem d26_18 : decode jdk_52_method_14_code 18 = .ok (.iload_n 1, 1) := by decide +kernel
theorem d26_19 : decode jdk_52_method_14_code 19 = .ok (.caload, 1) := by decide +kernel
theorem w152 {a0 : Array Value} {Z : State} (hw : ∀ d ∈ tables_1, d.before a0 Z = true) : ((Jvm.Cond.code ({ cls := "java/lang/StringUTF16", name := "putChar", desc := "([BII)V" } : Jvm.MethodName) jdk_52_method_4_code (3 : Nat) (Option.none : Option Jvm.ClassFile.FieldType))).before a0 Z = true := hw _ (List.mem_of_getElem? (i := 152) rfl)
theorem pd3 : parseMethodDescriptor "([BII)V" = some ⟨[(.array .byte), .int, .int], none⟩ := by decide +kernel
theorem d26_20 : decode jdk_52_method_14_code 20 = .ok (.invokestatic 111, 3) := by decide +kernel
theorem w150 {a0 : Array Value} {Z : State} (hw : ∀ d ∈ tables_1, d.before a0 Z = true) : ((Jvm.Cond.methodLink "java/lang/StringUTF16" (111 : Nat) ({ cls := "java/lang/StringUTF16", name := "putChar", desc := "([BII)V" } : Jvm.MethodName))).before a0 Z = true := hw _ (List.mem_of_getElem? (i := 150) rfl)
theorem w151 {a0 : Array Value} {Z : State} (hw : ∀ d ∈ tables_1, d.before a0 Z = true) : ((Jvm.Cond.static ({ cls := "java/lang/StringUTF16", name := "putChar", desc := "([BII)V" } : Jvm.MethodName))).before a0 Z = true := hw _ (List.mem_of_getElem? (i := 151) rfl)
theorem d26_23 : decode jdk_52_method_14_code 23 = .ok (.iinc 1 1, 3) := by decide +kernel
theorem d26_26 : decode jdk_52_method_14_code 26 = .ok (.iinc 4 1, 3) := by decide +kernel
theorem d26_29 : decode jdk_52_method_14_code 29 = .ok (.goto (-21), 3) := by decide +kernel
def rr_tobW : Room := { frames := 2, cells := 1, slots := 6, locals := 24 }
set_option maxRecDepth 65536 in
set_option maxHeartbeats 40000000 in
theorem rm_tobW (l : Launch) (Z : State) (a0 : Array Value) (hw : ∀ d ∈ tables_1, d.before a0 Z = true) (ws : List Jvm.Cond) (b : Addr) (kC : ClassId) (cs : List Int32) (n : Nat) (h0 : Heap) (n0 : Nat) (Z0 : n0 ≤ h0.size) (O0 : Old Z n0 h0) (VC : Arv Z h0 b kC .char (Int32.ofNat n) (cs.map Value.int) (.int (0 : Int32))) (hcap : n ≤ 3) (hcs : cs.length = n) (hn : n < 2 ^ 30) (UA : Sta Z Z.heap "java/lang/StringUTF16" "$assertionsDisabled" "Z" (.int (1 : Int32))) (UH : Sta Z Z.heap "java/lang/StringUTF16" "HI_BYTE_SHIFT" "I" (.int (0 : Int32))) (UL : Sta Z Z.heap "java/lang/StringUTF16" "LO_BYTE_SHIFT" "I" (.int (8 : Int32))) :
    Con l Z (⟨"java/lang/StringUTF16", "toBytes", "([CII)[B"⟩ : MethodName) jdk_52_method_14_code 5 (some (.array .byte)) ws rr_tobW #[(.ref b), (.int (0 : Int32)), (.int (Int32.ofNat n))] h0 (fun v h L => ∃ (t : Addr) (k : ClassId) (xs : List Int32), v = some (.ref t) ∧ Fr n0 L ∧ Ext h0 h ∧ h0.size ≤ t ∧ xs.length = 2 * n ∧ Arv Z h t k .byte (Int32.ofNat (2 * n)) (xs.map Value.int) (.int (0 : Int32)) ∧ ∀ i, i < n → xs.getD (2 * i) 0 = ((cs.getD i 0).toInt8.toInt32) ∧ xs.getD (2 * i + 1) 0 = (((cs.getD i 0) >>> ((8 : Int32) &&& 31)).toInt8.toInt32)) := by
  refine Con.enter (plainFor_of_name pn0) ?_
  intro p e s m below meth c s₁ X0 hx hZ hby hml hret hlk hown hnm e0
  have N0 := Fr.nil n0
  refine Go.cast (g' := (mkF m 0 #[.val (.ref b), .val (.int (0 : Int32)), .val (.int (Int32.ofNat n)), .unset, .unset] [])) (by first | rfl | (simp [entryFrame, mkF, argsToLocals, Value.category]; done)) ?_
  refine Go.st (T' := s₁) (g' := (mkF m 1 #[.val (.ref b), .val (.int (0 : Int32)), .val (.int (Int32.ofNat n)), .unset, .unset] [(.int (Int32.ofNat n))])) (fun _ zk => XS.iloadN X0.here hx rfl (hb hby d26_0) rfl zk) ?_
  refine Go.callSt (y := (⟨"java/lang/StringUTF16", "newBytesFor", "(I)[B"⟩ : MethodName)) X0 hx hZ hown e0 (w143 hw) (w144 hw) (w110 hw) (w145 hw) (by decide) (argsL := [(.int (Int32.ofNat n))]) (rest := []) (W := 0) (rm_nbfW l Z a0 hw [] n h0 n0 Z0 hcap hn) rfl (lenOf pd2 rfl) rfl (by rw [hml]; rfl) rfl (by show 2 * 0 + _ ≤ _; exact Nat.le_of_eq rfl) (by decide) (by decide) (by decide) (by decide) (hb hby d26_1) ?_
  intro v1 T1 h1 L1 X1 e1 q1
  obtain ⟨t, k, hv1, Nf1, E1, ge, V1⟩ := q1
  subst hv1
  have N1 := Fr.app N0 Nf1
  show Go p.tables e below _ T1 (mkF m 4 #[.val (.ref b), .val (.int (0 : Int32)), .val (.int (Int32.ofNat n)), .unset, .unset] [(.ref t)])
  refine Go.st (T' := T1) (g' := (mkF m 5 #[.val (.ref b), .val (.int (0 : Int32)), .val (.int (Int32.ofNat n)), .val (.ref t), .unset] [])) (fun _ zk => XS.astoreN X1.here hx rfl (hb hby d26_4) rfl rfl (l' := #[.val (.ref b), .val (.int (0 : Int32)), .val (.int (Int32.ofNat n)), .val (.ref t), .unset]) rfl zk) ?_
  refine Go.st (T' := T1) (g' := (mkF m 6 #[.val (.ref b), .val (.int (0 : Int32)), .val (.int (Int32.ofNat n)), .val (.ref t), .unset] [(.int (0 : Int32))])) (fun _ zk => XS.iconst X1.here hx rfl (hb hby d26_5) zk) ?_
  refine Go.st (T' := T1) (g' := (mkF m 8 #[.val (.ref b), .val (.int (0 : Int32)), .val (.int (Int32.ofNat n)), .val (.ref t), .val (.int (0 : Int32))] [])) (fun _ zk => XS.istore X1.here hx rfl (hb hby d26_6) rfl (l' := #[.val (.ref b), .val (.int (0 : Int32)), .val (.int (Int32.ofNat n)), .val (.ref t), .val (.int (0 : Int32))]) rfl zk) ?_
  have tg : h0.size ≤ t := (Nat.le_trans (Nat.le_refl _) ge)
  have loop : ∀ (q i : Nat), i + q = n → ∀ (T : State) (lc : List Loc) (hL : Heap) (xs : List Int32), Stand p l e rr_tobW s m #[(.ref b), (.int 0), (.int (Int32.ofNat n))] below meth c T lc (0 + rr_nbfW.cells) (0 + rr_nbfW.slots) → T.heap = hL → Fr n0 lc → Ext h0 hL → xs.length = 2 * n → Arv Z hL t k .byte (Int32.ofNat (2 * n)) (xs.map Value.int) (.int (0 : Int32)) → (∀ j, j < i → xs.getD (2 * j) 0 = ((cs.getD j 0).toInt8.toInt32) ∧ xs.getD (2 * j + 1) 0 = (((cs.getD j 0) >>> ((8 : Int32) &&& 31)).toInt8.toInt32)) → Go p.tables e below (FinP s (fun v h L => ∃ (t : Addr) (k : ClassId) (xs : List Int32), v = some (.ref t) ∧ Fr n0 L ∧ Ext h0 h ∧ h0.size ≤ t ∧ xs.length = 2 * n ∧ Arv Z h t k .byte (Int32.ofNat (2 * n)) (xs.map Value.int) (.int (0 : Int32)) ∧ ∀ i, i < n → xs.getD (2 * i) 0 = ((cs.getD i 0).toInt8.toInt32) ∧ xs.getD (2 * i + 1) 0 = (((cs.getD i 0) >>> ((8 : Int32) &&& 31)).toInt8.toInt32)) rr_tobW.cells rr_tobW.slots) T (mkF m 8 #[.val (.ref b), .val (.int (Int32.ofNat i)), .val (.int (Int32.ofNat n)), .val (.ref t), .val (.int (Int32.ofNat i))] []) := by
    intro q
    induction q with
    | zero =>
      intro i hi T lc hL xs XL eL NL EL hl VL inv
      refine Go.st (T' := T) (g' := (mkF m 10 #[.val (.ref b), .val (.int (Int32.ofNat i)), .val (.int (Int32.ofNat n)), .val (.ref t), .val (.int (Int32.ofNat i))] [(.int (Int32.ofNat i))])) (fun _ zk => XS.iload XL.here hx rfl (hb hby d26_8) rfl zk) ?_
      refine Go.st (T' := T) (g' := (mkF m 11 #[.val (.ref b), .val (.int (Int32.ofNat i)), .val (.int (Int32.ofNat n)), .val (.ref t), .val (.int (Int32.ofNat i))] [(.int (Int32.ofNat n)), (.int (Int32.ofNat i))])) (fun _ zk => XS.iloadN XL.here hx rfl (hb hby d26_10) rfl zk) ?_
      refine Go.st (T' := T) (g' := (mkF m 32 #[.val (.ref b), .val (.int (Int32.ofNat i)), .val (.int (Int32.ofNat n)), .val (.ref t), .val (.int (Int32.ofNat i))] [])) (fun _ zk => XS.icmpYes XL.here hx rfl (pc0 := 11) (pc' := 32) rfl (hb hby d26_11) rfl (flt (own_ofnl (by omega) (by omega) (by omega) : ¬ ((Int32.ofNat i) < (Int32.ofNat n)))).2.1 (by decide) (by decide) zk) ?_
      refine Go.st (T' := T) (g' := (mkF m 33 #[.val (.ref b), .val (.int (Int32.ofNat i)), .val (.int (Int32.ofNat n)), .val (.ref t), .val (.int (Int32.ofNat i))] [(.ref t)])) (fun _ zk => XS.aloadN XL.here hx rfl (hb hby d26_32) rfl rfl zk) ?_
      have xt2 : Ext h0 hL := EL
      refine Go.retA XL hx hlk hret rfl rfl (hb hby d26_33) (by decide) (by decide) eL ?_
      exact ⟨t, k, xs, rfl, NL, xt2, tg, hl, VL, fun j q => inv j (by omega)⟩
    | succ q ih =>
      intro i hi T lc hL xs XL eL NL EL hl VL inv
      refine Go.st (T' := T) (g' := (mkF m 10 #[.val (.ref b), .val (.int (Int32.ofNat i)), .val (.int (Int32.ofNat n)), .val (.ref t), .val (.int (Int32.ofNat i))] [(.int (Int32.ofNat i))])) (fun _ zk => XS.iload XL.here hx rfl (hb hby d26_8) rfl zk) ?_
      refine Go.st (T' := T) (g' := (mkF m 11 #[.val (.ref b), .val (.int (Int32.ofNat i)), .val (.int (Int32.ofNat n)), .val (.ref t), .val (.int (Int32.ofNat i))] [(.int (Int32.ofNat n)), (.int (Int32.ofNat i))])) (fun _ zk => XS.iloadN XL.here hx rfl (hb hby d26_10) rfl zk) ?_
      refine Go.st (T' := T) (g' := (mkF m 14 #[.val (.ref b), .val (.int (Int32.ofNat i)), .val (.int (Int32.ofNat n)), .val (.ref t), .val (.int (Int32.ofNat i))] [])) (fun _ zk => XS.icmpNo XL.here hx rfl (hb hby d26_11) rfl (tlt (own_oflt (by omega) (by omega) : (Int32.ofNat i) < (Int32.ofNat n))).2.1 zk) ?_
      refine Go.st (T' := T) (g' := (mkF m 15 #[.val (.ref b), .val (.int (Int32.ofNat i)), .val (.int (Int32.ofNat n)), .val (.ref t), .val (.int (Int32.ofNat i))] [(.ref t)])) (fun _ zk => XS.aloadN XL.here hx rfl (hb hby d26_14) rfl rfl zk) ?_
      refine Go.st (T' := T) (g' := (mkF m 17 #[.val (.ref b), .val (.int (Int32.ofNat i)), .val (.int (Int32.ofNat n)), .val (.ref t), .val (.int (Int32.ofNat i))] [(.int (Int32.ofNat i)), (.ref t)])) (fun _ zk => XS.iload XL.here hx rfl (hb hby d26_15) rfl zk) ?_
      refine Go.st (T' := T) (g' := (mkF m 18 #[.val (.ref b), .val (.int (Int32.ofNat i)), .val (.int (Int32.ofNat n)), .val (.ref t), .val (.int (Int32.ofNat i))] [(.ref b), (.int (Int32.ofNat i)), (.ref t)])) (fun _ zk => XS.aloadN XL.here hx rfl (hb hby d26_17) rfl rfl zk) ?_
      refine Go.st (T' := T) (g' := (mkF m 19 #[.val (.ref b), .val (.int (Int32.ofNat i)), .val (.int (Int32.ofNat n)), .val (.ref t), .val (.int (Int32.ofNat i))] [(.int (Int32.ofNat i)), (.ref b), (.int (Int32.ofNat i)), (.ref t)])) (fun _ zk => XS.iloadN XL.here hx rfl (hb hby d26_18) rfl zk) ?_
      have xt3 : Ext h0 hL := EL
      have f4 := VC.ext xt3
      refine Go.st (T' := T) (g' := (mkF m 20 #[.val (.ref b), .val (.int (Int32.ofNat i)), .val (.int (Int32.ofNat n)), .val (.ref t), .val (.int (Int32.ofNat i))] [(.int (cs.getD i 0)), (.int (Int32.ofNat i)), (.ref t)])) (fun _ zk => ldCV XL hx hZ eL f4 (j := (Int32.ofNat i)) ⟨own_ofn0 (by omega), own_oflt (by omega) (by omega)⟩ (v := (.int (cs.getD i 0))) (by rw [own_clamp (by omega)]; exact own_getD _ _) (g := (mkF m 19 #[.val (.ref b), .val (.int (Int32.ofNat i)), .val (.int (Int32.ofNat n)), .val (.ref t), .val (.int (Int32.ofNat i))] [(.int (Int32.ofNat i)), (.ref b), (.int (Int32.ofNat i)), (.ref t)])) rfl (rest := [(.int (Int32.ofNat i)), (.ref t)]) rfl (hb hby d26_19) zk) ?_
      have f6 := O0.ext xt3
      refine Go.callSt (y := (⟨"java/lang/StringUTF16", "putChar", "([BII)V"⟩ : MethodName)) XL hx hZ hown eL (w150 hw) (w151 hw) (w110 hw) (w152 hw) (by decide) (argsL := [(.ref t), (.int (Int32.ofNat i)), (.int (cs.getD i 0))]) (rest := []) (W := 0) (rm_putW l Z a0 hw [] t k xs (2 * n) i (cs.getD i 0) hL n0 (Nat.le_trans Z0 EL.1) f6 VL (Nat.le_trans Z0 (Nat.le_trans (Nat.le_refl _) tg)) hl (by omega) (by omega) UA UH UL) rfl (lenOf pd3 rfl) rfl (by rw [hml]; rfl) rfl (by show 2 * 0 + _ ≤ _; exact Nat.le_of_eq rfl) (by decide) (by decide) (by decide) (by decide) (hb hby d26_20) ?_
      intro v5 T5 h5 L5 X5 e5 q5
      obtain ⟨hv5, Nf5, K5, V5⟩ := q5
      subst hv5
      have N5 := Fr.app NL Nf5
      show Go p.tables e below _ T5 (mkF m 23 #[.val (.ref b), .val (.int (Int32.ofNat i)), .val (.int (Int32.ofNat n)), .val (.ref t), .val (.int (Int32.ofNat i))] [])
      refine Go.st (T' := T5) (g' := (mkF m 26 #[.val (.ref b), .val (.int ((Int32.ofNat i) + (1 : Int32))), .val (.int (Int32.ofNat n)), .val (.ref t), .val (.int (Int32.ofNat i))] [])) (fun _ zk => XS.iinc X5.here hx rfl (hb hby d26_23) rfl (l' := #[.val (.ref b), .val (.int ((Int32.ofNat i) + (1 : Int32))), .val (.int (Int32.ofNat n)), .val (.ref t), .val (.int (Int32.ofNat i))]) rfl zk) ?_
      refine Go.st (T' := T5) (g' := (mkF m 29 #[.val (.ref b), .val (.int ((Int32.ofNat i) + (1 : Int32))), .val (.int (Int32.ofNat n)), .val (.ref t), .val (.int ((Int32.ofNat i) + (1 : Int32)))] [])) (fun _ zk => XS.iinc X5.here hx rfl (hb hby d26_26) rfl (l' := #[.val (.ref b), .val (.int ((Int32.ofNat i) + (1 : Int32))), .val (.int (Int32.ofNat n)), .val (.ref t), .val (.int ((Int32.ofNat i) + (1 : Int32)))]) rfl zk) ?_
      refine Go.st (T' := T5) (g' := (mkF m 8 #[.val (.ref b), .val (.int ((Int32.ofNat i) + (1 : Int32))), .val (.int (Int32.ofNat n)), .val (.ref t), .val (.int ((Int32.ofNat i) + (1 : Int32)))] [])) (fun _ zk => XS.goto X5.here hx rfl (pc0 := 29) (pc' := 8) rfl (hb hby d26_29) (by decide) (by decide) zk) ?_
      have xt7 : Ext h0 h5 := (xt3.thenK K5 (allS (P := fun x => h0.size ≤ x) tg all0))
      rw [own_one]
      exact ih (i + 1) (by omega) _ _ _ _ X5 e5 N5 xt7 (by rw [List.length_set, List.length_set]; exact hl) V5 (own_inv2 (P := fun j x y => x = ((cs.getD j 0).toInt8.toInt32) ∧ y = (((cs.getD j 0) >>> ((8 : Int32) &&& 31)).toInt8.toInt32)) inv (by omega) ⟨rfl, rfl⟩)
  have xt8 : Ext h0 h1 := E1
  exact loop n 0 (by omega) _ _ _ _ X1 e1 N1 xt8 (by rw [List.length_replicate]) V1 (fun j q => absurd q (Nat.not_lt_zero _))
theorem d30_0 : decode jdk_52_method_5_code 0 = .ok (.getstatic 44, 3) := by decide +kernel
theorem d30_3 : decode jdk_52_method_5_code 3 = .ok (.ifCond .ne 25, 3) := by decide +kernel
theorem d30_28 : decode jdk_52_method_5_code 28 = .ok (.iload_n 1, 1) := by decide +kernel
theorem d30_29 : decode jdk_52_method_5_code 29 = .ok (.iconst 1, 1) := by decide +kernel
theorem d30_30 : decode jdk_52_method_5_code 30 = .ok (.ishl, 1) := by decide +kernel
theorem d30_31 : decode jdk_52_method_5_code 31 = .ok (.istore_n 1, 1) := by decide +kernel
theorem d30_32 : decode jdk_52_method_5_code 32 = .ok (.aload_n 0, 1) := by decide +kernel
theorem d30_33 : decode jdk_52_method_5_code 33 = .ok (.iload_n 1, 1) := by decide +kernel
theorem d30_34 : decode jdk_52_method_5_code 34 = .ok (.iinc 1 1, 3) := by decide +kernel
theorem d30_37 : decode jdk_52_method_5_code 37 = .ok (.baload, 1) := by decide +kernel
theorem d30_38 : decode jdk_52_method_5_code 38 = .ok (.sipush 255, 3) := by decide +kernel
theorem d30_41 : decode jdk_52_method_5_code 41 = .ok (.iand, 1) := by decide +kernel
theorem d30_42 : decode jdk_52_method_5_code 42 = .ok (.getstatic 59, 3) := by decide +kernel
theorem d30_45 : decode jdk_52_method_5_code 45 = .ok (.ishl, 1) := by decide +kernel
theorem d30_46 : decode jdk_52_method_5_code 46 = .ok (.aload_n 0, 1) := by decide +kernel
theorem d30_47 : decode jdk_52_method_5_code 47 = .ok (.iload_n 1, 1) := by decide +kernel
theorem d30_48 : decode jdk_52_method_5_code 48 = .ok (.baload, 1) := by decide +kernel
theorem d30_49 : decode jdk_52_method_5_code 49 = .ok (.sipush 255, 3) := by decide +kernel
theorem d30_52 : decode jdk_52_method_5_code 52 = .ok (.iand, 1) := by decide +kernel
theorem d30_53 : decode jdk_52_method_5_code 53 = .ok (.getstatic 63, 3) := by decide +kernel
theorem d30_56 : decode jdk_52_method_5_code 56 = .ok (.ishl, 1) := by decide +kernel
theorem d30_57 : decode jdk_52_method_5_code 57 = .ok (.ior, 1) := by decide +kernel
theorem d30_58 : decode jdk_52_method_5_code 58 = .ok (.i2c, 1) := by decide +kernel
theorem d30_59 : decode jdk_52_method_5_code 59 = .ok (.ireturn, 1) := by decide +kernel
def rr_getW : Room := { frames := 0, cells := 0, slots := 0, locals := 0 }
set_option maxRecDepth 65536 in
set_option maxHeartbeats 40000000 in
theorem rm_getW (l : Launch) (Z : State) (a0 : Array Value) (hw : ∀ d ∈ tables_1, d.before a0 Z = true) (ws : List Jvm.Cond) (t : Addr) (k : ClassId) (xs : List Int32) (z i : Nat) (h0 : Heap) (n0 : Nat) (Z0 : n0 ≤ h0.size) (O0 : Old Z n0 h0) (V1 : Arv Z h0 t k .byte (Int32.ofNat z) (xs.map Value.int) (.int (0 : Int32))) (hx0 : xs.length = z) (hz0 : z < 2 ^ 31) (hi : 2 * i + 1 < z) (UA : Sta Z Z.heap "java/lang/StringUTF16" "$assertionsDisabled" "Z" (.int (1 : Int32))) (UH : Sta Z Z.heap "java/lang/StringUTF16" "HI_BYTE_SHIFT" "I" (.int (0 : Int32))) (UL : Sta Z Z.heap "java/lang/StringUTF16" "LO_BYTE_SHIFT" "I" (.int (8 : Int32))) :
    Con l Z (⟨"java/lang/StringUTF16", "getChar", "([BI)C"⟩ : MethodName) jdk_52_method_5_code 2 (some .char) ws rr_getW #[(.ref t), (.int (Int32.ofNat i))] h0 (fun v h L => v = some (.int (((((xs.getD (2 * i) 0) &&& (255 : Int32)) <<< ((0 : Int32) &&& 31)) ||| (((xs.getD (2 * i + 1) 0) &&& (255 : Int32)) <<< ((8 : Int32) &&& 31))).toUInt32.toUInt16.toUInt32.toInt32)) ∧ Fr n0 L ∧ h = h0) := by
  refine Con.enter (plainFor_of_name pn0) ?_
  intro p e s m below meth c s₁ X0 hx hZ hby hml hret hlk hown hnm e0
  have N0 := Fr.nil n0
  refine Go.cast (g' := (mkF m 0 #[.val (.ref t), .val (.int (Int32.ofNat i))] [])) (by first | rfl | (simp [entryFrame, mkF, argsToLocals, Value.category]; done)) ?_
  obtain ⟨T1, X1, e1, st1⟩ := getS2 X0 hx hZ hown (host := "") (Or.inl (w153 hw)) Via.refl e0 (UA.ext O0.2) (g := (mkF m 0 #[.val (.ref t), .val (.int (Int32.ofNat i))] [])) rfl (hb hby d30_0)
  refine Go.st (T' := T1) (g' := (mkF m 3 #[.val (.ref t), .val (.int (Int32.ofNat i))] [(.int (1 : Int32))])) (fun _ zk => st1 _ zk) ?_
  refine Go.st (T' := T1) (g' := (mkF m 28 #[.val (.ref t), .val (.int (Int32.ofNat i))] [])) (fun _ zk => XS.ifYes X1.here hx rfl (pc0 := 3) (pc' := 28) rfl (hb hby d30_3) rfl ((if0 _ _).trans (feq ((by decide) : ¬ ((1 : Int32) = (0 : Int32)))).2) (by decide) (by decide) zk) ?_
  refine Go.st (T' := T1) (g' := (mkF m 29 #[.val (.ref t), .val (.int (Int32.ofNat i))] [(.int (Int32.ofNat i))])) (fun _ zk => XS.iloadN X1.here hx rfl (hb hby d30_28) rfl zk) ?_
  refine Go.st (T' := T1) (g' := (mkF m 30 #[.val (.ref t), .val (.int (Int32.ofNat i))] [(.int (1 : Int32)), (.int (Int32.ofNat i))])) (fun _ zk => XS.iconst X1.here hx rfl (hb hby d30_29) zk) ?_
  refine Go.st (T' := T1) (g' := (mkF m 31 #[.val (.ref t), .val (.int (Int32.ofNat i))] [(.int ((Int32.ofNat i) <<< ((1 : Int32) &&& 31)))])) (fun _ zk => XS.ishl X1.here hx rfl (hb hby d30_30) rfl zk) ?_
  rw [own_shl1 (by omega)]
  refine Go.st (T' := T1) (g' := (mkF m 32 #[.val (.ref t), .val (.int (Int32.ofNat (2 * i)))] [])) (fun _ zk => XS.istoreN X1.here hx rfl (hb hby d30_31) rfl (l' := #[.val (.ref t), .val (.int (Int32.ofNat (2 * i)))]) rfl zk) ?_
  refine Go.st (T' := T1) (g' := (mkF m 33 #[.val (.ref t), .val (.int (Int32.ofNat (2 * i)))] [(.ref t)])) (fun _ zk => XS.aloadN X1.here hx rfl (hb hby d30_32) rfl rfl zk) ?_
  refine Go.st (T' := T1) (g' := (mkF m 34 #[.val (.ref t), .val (.int (Int32.ofNat (2 * i)))] [(.int (Int32.ofNat (2 * i))), (.ref t)])) (fun _ zk => XS.iloadN X1.here hx rfl (hb hby d30_33) rfl zk) ?_
  refine Go.st (T' := T1) (g' := (mkF m 37 #[.val (.ref t), .val (.int ((Int32.ofNat (2 * i)) + (1 : Int32)))] [(.int (Int32.ofNat (2 * i))), (.ref t)])) (fun _ zk => XS.iinc X1.here hx rfl (hb hby d30_34) rfl (l' := #[.val (.ref t), .val (.int ((Int32.ofNat (2 * i)) + (1 : Int32)))]) rfl zk) ?_
  rw [own_one]
  refine Go.st (T' := T1) (g' := (mkF m 38 #[.val (.ref t), .val (.int (Int32.ofNat (2 * i + 1)))] [(.int (xs.getD (2 * i) 0))])) (fun _ zk => ldBV X1 hx hZ e1 V1 (j := (Int32.ofNat (2 * i))) ⟨own_ofn0 (by omega), own_oflt (by omega) (by omega)⟩ (v := (.int (xs.getD (2 * i) 0))) (by rw [own_clamp (by omega)]; exact own_getD _ _) (g := (mkF m 37 #[.val (.ref t), .val (.int (Int32.ofNat (2 * i + 1)))] [(.int (Int32.ofNat (2 * i))), (.ref t)])) rfl (rest := []) rfl (hb hby d30_37) zk) ?_
  refine Go.st (T' := T1) (g' := (mkF m 41 #[.val (.ref t), .val (.int (Int32.ofNat (2 * i + 1)))] [(.int (255 : Int32)), (.int (xs.getD (2 * i) 0))])) (fun _ zk => XS.sipush X1.here hx rfl (hb hby d30_38) zk) ?_
  refine Go.st (T' := T1) (g' := (mkF m 42 #[.val (.ref t), .val (.int (Int32.ofNat (2 * i + 1)))] [(.int ((xs.getD (2 * i) 0) &&& (255 : Int32)))])) (fun _ zk => XS.iand X1.here hx rfl (hb hby d30_41) rfl zk) ?_
  obtain ⟨T2, X2, e2, st2⟩ := getS2 X1 hx hZ hown (host := "") (Or.inl (w154 hw)) Via.refl e1 (UH.ext O0.2) (g := (mkF m 42 #[.val (.ref t), .val (.int (Int32.ofNat (2 * i + 1)))] [(.int ((xs.getD (2 * i) 0) &&& (255 : Int32)))])) rfl (hb hby d30_42)
  refine Go.st (T' := T2) (g' := (mkF m 45 #[.val (.ref t), .val (.int (Int32.ofNat (2 * i + 1)))] [(.int (0 : Int32)), (.int ((xs.getD (2 * i) 0) &&& (255 : Int32)))])) (fun _ zk => st2 _ zk) ?_
  refine Go.st (T' := T2) (g' := (mkF m 46 #[.val (.ref t), .val (.int (Int32.ofNat (2 * i + 1)))] [(.int (((xs.getD (2 * i) 0) &&& (255 : Int32)) <<< ((0 : Int32) &&& 31)))])) (fun _ zk => XS.ishl X2.here hx rfl (hb hby d30_45) rfl zk) ?_
  refine Go.st (T' := T2) (g' := (mkF m 47 #[.val (.ref t), .val (.int (Int32.ofNat (2 * i + 1)))] [(.ref t), (.int (((xs.getD (2 * i) 0) &&& (255 : Int32)) <<< ((0 : Int32) &&& 31)))])) (fun _ zk => XS.aloadN X2.here hx rfl (hb hby d30_46) rfl rfl zk) ?_
  refine Go.st (T' := T2) (g' := (mkF m 48 #[.val (.ref t), .val (.int (Int32.ofNat (2 * i + 1)))] [(.int (Int32.ofNat (2 * i + 1))), (.ref t), (.int (((xs.getD (2 * i) 0) &&& (255 : Int32)) <<< ((0 : Int32) &&& 31)))])) (fun _ zk => XS.iloadN X2.here hx rfl (hb hby d30_47) rfl zk) ?_
  refine Go.st (T' := T2) (g' := (mkF m 49 #[.val (.ref t), .val (.int (Int32.ofNat (2 * i + 1)))] [(.int (xs.getD (2 * i + 1) 0)), (.int (((xs.getD (2 * i) 0) &&& (255 : Int32)) <<< ((0 : Int32) &&& 31)))])) (fun _ zk => ldBV X2 hx hZ e2 V1 (j := (Int32.ofNat (2 * i + 1))) ⟨own_ofn0 (by omega), own_oflt (by omega) (by omega)⟩ (v := (.int (xs.getD (2 * i + 1) 0))) (by rw [own_clamp (by omega)]; exact own_getD _ _) (g := (mkF m 48 #[.val (.ref t), .val (.int (Int32.ofNat (2 * i + 1)))] [(.int (Int32.ofNat (2 * i + 1))), (.ref t), (.int (((xs.getD (2 * i) 0) &&& (255 : Int32)) <<< ((0 : Int32) &&& 31)))])) rfl (rest := [(.int (((xs.getD (2 * i) 0) &&& (255 : Int32)) <<< ((0 : Int32) &&& 31)))]) rfl (hb hby d30_48) zk) ?_
  refine Go.st (T' := T2) (g' := (mkF m 52 #[.val (.ref t), .val (.int (Int32.ofNat (2 * i + 1)))] [(.int (255 : Int32)), (.int (xs.getD (2 * i + 1) 0)), (.int (((xs.getD (2 * i) 0) &&& (255 : Int32)) <<< ((0 : Int32) &&& 31)))])) (fun _ zk => XS.sipush X2.here hx rfl (hb hby d30_49) zk) ?_
  refine Go.st (T' := T2) (g' := (mkF m 53 #[.val (.ref t), .val (.int (Int32.ofNat (2 * i + 1)))] [(.int ((xs.getD (2 * i + 1) 0) &&& (255 : Int32))), (.int (((xs.getD (2 * i) 0) &&& (255 : Int32)) <<< ((0 : Int32) &&& 31)))])) (fun _ zk => XS.iand X2.here hx rfl (hb hby d30_52) rfl zk) ?_
  obtain ⟨T3, X3, e3, st3⟩ := getS2 X2 hx hZ hown (host := "") (Or.inl (w155 hw)) Via.refl e2 (UL.ext O0.2) (g := (mkF m 53 #[.val (.ref t), .val (.int (Int32.ofNat (2 * i + 1)))] [(.int ((xs.getD (2 * i + 1) 0) &&& (255 : Int32))), (.int (((xs.getD (2 * i) 0) &&& (255 : Int32)) <<< ((0 : Int32) &&& 31)))])) rfl (hb hby d30_53)
  refine Go.st (T' := T3) (g' := (mkF m 56 #[.val (.ref t), .val (.int (Int32.ofNat (2 * i + 1)))] [(.int (8 : Int32)), (.int ((xs.getD (2 * i + 1) 0) &&& (255 : Int32))), (.int (((xs.getD (2 * i) 0) &&& (255 : Int32)) <<< ((0 : Int32) &&& 31)))])) (fun _ zk => st3 _ zk) ?_
  refine Go.st (T' := T3) (g' := (mkF m 57 #[.val (.ref t), .val (.int (Int32.ofNat (2 * i + 1)))] [(.int (((xs.getD (2 * i + 1) 0) &&& (255 : Int32)) <<< ((8 : Int32) &&& 31))), (.int (((xs.getD (2 * i) 0) &&& (255 : Int32)) <<< ((0 : Int32) &&& 31)))])) (fun _ zk => XS.ishl X3.here hx rfl (hb hby d30_56) rfl zk) ?_
  refine Go.st (T' := T3) (g' := (mkF m 58 #[.val (.ref t), .val (.int (Int32.ofNat (2 * i + 1)))] [(.int ((((xs.getD (2 * i) 0) &&& (255 : Int32)) <<< ((0 : Int32) &&& 31)) ||| (((xs.getD (2 * i + 1) 0) &&& (255 : Int32)) <<< ((8 : Int32) &&& 31))))])) (fun _ zk => XS.ior X3.here hx rfl (hb hby d30_57) rfl zk) ?_
  refine Go.st (T' := T3) (g' := (mkF m 59 #[.val (.ref t), .val (.int (Int32.ofNat (2 * i + 1)))] [(.int (((((xs.getD (2 * i) 0) &&& (255 : Int32)) <<< ((0 : Int32) &&& 31)) ||| (((xs.getD (2 * i + 1) 0) &&& (255 : Int32)) <<< ((8 : Int32) &&& 31))).toUInt32.toUInt16.toUInt32.toInt32))])) (fun _ zk => XS.i2c X3.here hx rfl (hb hby d30_58) rfl zk) ?_
  refine Go.retN X3 hx hlk hret (congrArg Value.int nar_c) (by simp) (hb hby d30_59) (by decide) (by decide) e3 ?_
  exact ⟨rfl, N0, rfl⟩
theorem d18_0 : decode jdk_52_method_16_code 0 = .ok (.iload_n 2, 1) := by decide +kernel
theorem d18_1 : decode jdk_52_method_16_code 1 = .ok (.newarray .byte, 2) := by decide +kernel
theorem d18_3 : decode jdk_52_method_16_code 3 = .ok (.astore_n 3, 1) := by decide +kernel
theorem d18_4 : decode jdk_52_method_16_code 4 = .ok (.aload_n 0, 1) := by decide +kernel
theorem d18_5 : decode jdk_52_method_16_code 5 = .ok (.iload_n 1, 1) := by decide +kernel
theorem d18_6 : decode jdk_52_method_16_code 6 = .ok (.aload_n 3, 1) := by decide +kernel
theorem d18_7 : decode jdk_52_method_16_code 7 = .ok (.iconst 0, 1) := by decide +kernel
theorem d18_8 : decode jdk_52_method_16_code 8 = .ok (.iload_n 2, 1) := by decide +kernel
theorem w114 {a0 : Array Value} {Z : State} (hw : ∀ d ∈ tables_1, d.before a0 Z = true) : ((Jvm.Cond.code ({ cls := "java/lang/StringUTF16", name := "compress", desc := "([CI[BII)I" } : Jvm.MethodName) jdk_52_method_21_code (7 : Nat) (Option.some Jvm.ClassFile.FieldType.int))).before a0 Z = true := hw _ (List.mem_of_getElem? (i := 114) rfl)
theorem pd4 : parseMethodDescriptor "([CI[BII)I" = some ⟨[(.array .char), .int, (.array .byte), .int, .int], some .int⟩ := by decide +kernel
theorem d18_9 : decode jdk_52_method_16_code 9 = .ok (.invokestatic 115, 3) := by decide +kernel
theorem w112 {a0 : Array Value} {Z : State} (hw : ∀ d ∈ tables_1, d.before a0 Z = true) : ((Jvm.Cond.methodLink "java/lang/StringUTF16" (115 : Nat) ({ cls := "java/lang/StringUTF16", name := "compress", desc := "([CI[BII)I" } : Jvm.MethodName))).before a0 Z = true := hw _ (List.mem_of_getElem? (i := 112) rfl)
theorem w113 {a0 : Array Value} {Z : State} (hw : ∀ d ∈ tables_1, d.before a0 Z = true) : ((Jvm.Cond.static ({ cls := "java/lang/StringUTF16", name := "compress", desc := "([CI[BII)I" } : Jvm.MethodName))).before a0 Z = true := hw _ (List.mem_of_getElem? (i := 113) rfl)
theorem d18_12 : decode jdk_52_method_16_code 12 = .ok (.istore 4, 2) := by decide +kernel
theorem d18_14 : decode jdk_52_method_16_code 14 = .ok (.iload 4, 2) := by decide +kernel
theorem d18_16 : decode jdk_52_method_16_code 16 = .ok (.iload_n 2, 1) := by decide +kernel
theorem d18_17 : decode jdk_52_method_16_code 17 = .ok (.if_icmp .eq 40, 3) := by decide +kernel
theorem d18_57 : decode jdk_52_method_16_code 57 = .ok (.aload_n 3, 1) := by decide +kernel
theorem d18_58 : decode jdk_52_method_16_code 58 = .ok (.areturn, 1) := by decide +kernel
theorem d18_20 : decode jdk_52_method_16_code 20 = .ok (.aload_n 0, 1) := by decide +kernel
theorem d18_21 : decode jdk_52_method_16_code 21 = .ok (.iload_n 1, 1) := by decide +kernel
theorem d18_22 : decode jdk_52_method_16_code 22 = .ok (.iload_n 2, 1) := by decide +kernel
theorem w142 {a0 : Array Value} {Z : State} (hw : ∀ d ∈ tables_1, d.before a0 Z = true) : ((Jvm.Cond.code ({ cls := "java/lang/StringUTF16", name := "toBytes", desc := "([CII)[B" } : Jvm.MethodName) jdk_52_method_14_code (5 : Nat) (Option.some (Jvm.ClassFile.FieldType.array Jvm.ClassFile.FieldType.byte)))).before a0 Z = true := hw _ (List.mem_of_getElem? (i := 142) rfl)
theorem pd5 : parseMethodDescriptor "([CII)[B" = some ⟨[(.array .char), .int, .int], some (.array .byte)⟩ := by decide +kernel
theorem d18_23 : decode jdk_52_method_16_code 23 = .ok (.invokestatic 119, 3) := by decide +kernel
theorem w140 {a0 : Array Value} {Z : State} (hw : ∀ d ∈ tables_1, d.before a0 Z = true) : ((Jvm.Cond.methodLink "java/lang/StringUTF16" (119 : Nat) ({ cls := "java/lang/StringUTF16", name := "toBytes", desc := "([CII)[B" } : Jvm.MethodName))).before a0 Z = true := hw _ (List.mem_of_getElem? (i := 140) rfl)
theorem w141 {a0 : Array Value} {Z : State} (hw : ∀ d ∈ tables_1, d.before a0 Z = true) : ((Jvm.Cond.static ({ cls := "java/lang/StringUTF16", name := "toBytes", desc := "([CII)[B" } : Jvm.MethodName))).before a0 Z = true := hw _ (List.mem_of_getElem? (i := 141) rfl)
theorem d18_26 : decode jdk_52_method_16_code 26 = .ok (.astore 5, 2) := by decide +kernel
theorem d18_28 : decode jdk_52_method_16_code 28 = .ok (.aload 5, 2) := by decide +kernel
theorem d18_30 : decode jdk_52_method_16_code 30 = .ok (.iload 4, 2) := by decide +kernel
theorem w158 {a0 : Array Value} {Z : State} (hw : ∀ d ∈ tables_1, d.before a0 Z = true) : ((Jvm.Cond.code ({ cls := "java/lang/StringUTF16", name := "getChar", desc := "([BI)C" } : Jvm.MethodName) jdk_52_method_5_code (2 : Nat) (Option.some Jvm.ClassFile.FieldType.char))).before a0 Z = true := hw _ (List.mem_of_getElem? (i := 158) rfl)
theorem pd6 : parseMethodDescriptor "([BI)C" = some ⟨[(.array .byte), .int], some .char⟩ := by decide +kernel
theorem d18_32 : decode jdk_52_method_16_code 32 = .ok (.invokestatic 71, 3) := by decide +kernel
theorem w156 {a0 : Array Value} {Z : State} (hw : ∀ d ∈ tables_1, d.before a0 Z = true) : ((Jvm.Cond.methodLink "java/lang/StringUTF16" (71 : Nat) ({ cls := "java/lang/StringUTF16", name := "getChar", desc := "([BI)C" } : Jvm.MethodName))).before a0 Z = true := hw _ (List.mem_of_getElem? (i := 156) rfl)
theorem w157 {a0 : Array Value} {Z : State} (hw : ∀ d ∈ tables_1, d.before a0 Z = true) : ((Jvm.Cond.static ({ cls := "java/lang/StringUTF16", name := "getChar", desc := "([BI)C" } : Jvm.MethodName))).before a0 Z = true := hw _ (List.mem_of_getElem? (i := 157) rfl)
theorem d18_35 : decode jdk_52_method_16_code 35 = .ok (.sipush 255, 3) := by decide +kernel
theorem d18_38 : decode jdk_52_method_16_code 38 = .ok (.if_icmp .gt 16, 3) := by decide +kernel
theorem d18_54 : decode jdk_52_method_16_code 54 = .ok (.aload 5, 2) := by decide +kernel
theorem d18_56 : decode jdk_52_method_16_code 56 = .ok (.areturn, 1) := by decide +kernel
def rr_cmp3W : Room := { frames := 3, cells := 2, slots := 9, locals := 40 }
set_option maxRecDepth 65536 in
set_option maxHeartbeats 40000000 in
theorem rm_cmp3W (l : Launch) (Z : State) (a0 : Array Value) (hw : ∀ d ∈ tables_1, d.before a0 Z = true) (ws : List Jvm.Cond) (b : Addr) (kC : ClassId) (cs : List Int32) (n : Nat) (h0 : Heap) (n0 : Nat) (Z0 : n0 ≤ h0.size) (O0 : Old Z n0 h0) (VC : Arv Z h0 b kC .char (Int32.ofNat n) (cs.map Value.int) (.int (0 : Int32))) (hcap : n ≤ 3) (hcs : cs.length = n) (hn : n < 2 ^ 30) (hr : ∀ c ∈ cs, 0 ≤ c.toInt ∧ c.toInt < 65536) (UA : Sta Z Z.heap "java/lang/StringUTF16" "$assertionsDisabled" "Z" (.int (1 : Int32))) (UH : Sta Z Z.heap "java/lang/StringUTF16" "HI_BYTE_SHIFT" "I" (.int (0 : Int32))) (UL : Sta Z Z.heap "java/lang/StringUTF16" "LO_BYTE_SHIFT" "I" (.int (8 : Int32))) :
    Con l Z (⟨"java/lang/StringUTF16", "compress", "([CII)[B"⟩ : MethodName) jdk_52_method_16_code 6 (some (.array .byte)) ws rr_cmp3W #[(.ref b), (.int (0 : Int32)), (.int (Int32.ofNat n))] h0 (fun v h L => ∃ (t : Addr) (k : ClassId) (cd : Int32) (xs : List Int32), v = some (.ref t) ∧ Fr n0 L ∧ Ext h0 h ∧ h0.size ≤ t ∧ Enc n cs xs cd ∧ Arv Z h t k .byte (Int32.ofNat xs.length) (xs.map Value.int) (.int (0 : Int32))) := by
  refine Con.enter (plainFor_of_name pn0) ?_
  intro p e s m below meth c s₁ X0 hx hZ hby hml hret hlk hown hnm e0
  have N0 := Fr.nil n0
  refine Go.cast (g' := (mkF m 0 #[.val (.ref b), .val (.int (0 : Int32)), .val (.int (Int32.ofNat n)), .unset, .unset, .unset] [])) (by first | rfl | (simp [entryFrame, mkF, argsToLocals, Value.category]; done)) ?_
  refine Go.st (T' := s₁) (g' := (mkF m 1 #[.val (.ref b), .val (.int (0 : Int32)), .val (.int (Int32.ofNat n)), .unset, .unset, .unset] [(.int (Int32.ofNat n))])) (fun _ zk => XS.iloadN X0.here hx rfl (hb hby d18_0) rfl zk) ?_
  obtain ⟨T1, h1, k1, X1, e1, E1, A1, st1⟩ := newP (aty := .byte) X0 hx hZ (w20 hw) e0 (g := (mkF m 1 #[.val (.ref b), .val (.int (0 : Int32)), .val (.int (Int32.ofNat n)), .unset, .unset, .unset] [(.int (Int32.ofNat n))])) rfl (hb hby d18_1) rfl (own_ofn0 (by omega)) (cap := 3) (by rw [own_clamp (by omega)]; exact hcap) (by decide) (by decide) (by decide)
  obtain ⟨b1, g1⟩ : ∃ z, z = h0.size := ⟨_, rfl⟩
  rw [← g1] at A1 st1
  have V1 := own_newA A1 (by omega)
  refine Go.st (T' := T1) (g' := (mkF m 3 #[.val (.ref b), .val (.int (0 : Int32)), .val (.int (Int32.ofNat n)), .unset, .unset, .unset] [(.ref b1)])) (fun _ zk => st1 _ zk) ?_
  refine Go.st (T' := T1) (g' := (mkF m 4 #[.val (.ref b), .val (.int (0 : Int32)), .val (.int (Int32.ofNat n)), .val (.ref b1), .unset, .unset] [])) (fun _ zk => XS.astoreN X1.here hx rfl (hb hby d18_3) rfl rfl (l' := #[.val (.ref b), .val (.int (0 : Int32)), .val (.int (Int32.ofNat n)), .val (.ref b1), .unset, .unset]) rfl zk) ?_
  refine Go.st (T' := T1) (g' := (mkF m 5 #[.val (.ref b), .val (.int (0 : Int32)), .val (.int (Int32.ofNat n)), .val (.ref b1), .unset, .unset] [(.ref b)])) (fun _ zk => XS.aloadN X1.here hx rfl (hb hby d18_4) rfl rfl zk) ?_
  refine Go.st (T' := T1) (g' := (mkF m 6 #[.val (.ref b), .val (.int (0 : Int32)), .val (.int (Int32.ofNat n)), .val (.ref b1), .unset, .unset] [(.int (0 : Int32)), (.ref b)])) (fun _ zk => XS.iloadN X1.here hx rfl (hb hby d18_5) rfl zk) ?_
  refine Go.st (T' := T1) (g' := (mkF m 7 #[.val (.ref b), .val (.int (0 : Int32)), .val (.int (Int32.ofNat n)), .val (.ref b1), .unset, .unset] [(.ref b1), (.int (0 : Int32)), (.ref b)])) (fun _ zk => XS.aloadN X1.here hx rfl (hb hby d18_6) rfl rfl zk) ?_
  refine Go.st (T' := T1) (g' := (mkF m 8 #[.val (.ref b), .val (.int (0 : Int32)), .val (.int (Int32.ofNat n)), .val (.ref b1), .unset, .unset] [(.int (0 : Int32)), (.ref b1), (.int (0 : Int32)), (.ref b)])) (fun _ zk => XS.iconst X1.here hx rfl (hb hby d18_7) zk) ?_
  refine Go.st (T' := T1) (g' := (mkF m 9 #[.val (.ref b), .val (.int (0 : Int32)), .val (.int (Int32.ofNat n)), .val (.ref b1), .unset, .unset] [(.int (Int32.ofNat n)), (.int (0 : Int32)), (.ref b1), (.int (0 : Int32)), (.ref b)])) (fun _ zk => XS.iloadN X1.here hx rfl (hb hby d18_8) rfl zk) ?_
  have xt2 : Ext h0 h1 := E1
  have f3 := VC.ext xt2
  refine Go.callSt (y := (⟨"java/lang/StringUTF16", "compress", "([CI[BII)I"⟩ : MethodName)) X1 hx hZ hown e1 (w112 hw) (w113 hw) (w110 hw) (w114 hw) (by decide) (argsL := [(.ref b), (.int (0 : Int32)), (.ref b1), (.int (0 : Int32)), (.int (Int32.ofNat n))]) (rest := []) (W := 0) (rm_cmp5W l Z a0 hw [] b b1 kC k1 cs (List.replicate n (0 : Int32)) n h1 n0 (Nat.le_trans Z0 E1.1) f3 V1 (ne_lt VC.lt (Nat.le_refl _) (Nat.le_of_eq g1.symm)) (Nat.le_trans Z0 (Nat.le_trans (Nat.le_refl _) (Nat.le_of_eq g1.symm))) (by rw [List.length_replicate]) hcs hn) rfl (lenOf pd4 rfl) rfl (by rw [hml]; rfl) rfl (by show 2 * 0 + _ ≤ _; exact Nat.le_of_eq rfl) (by decide) (by decide) (by decide) (by decide) (hb hby d18_9) ?_
  intro v4 T4 h4 L4 X4 e4 q4
  obtain ⟨j, hv4, hj1, hj2, hj3, Nf4, K4, xs, hl, V4, hj4⟩ := q4
  subst hv4
  have N4 := Fr.app N0 Nf4
  show Go p.tables e below _ T4 (mkF m 12 #[.val (.ref b), .val (.int (0 : Int32)), .val (.int (Int32.ofNat n)), .val (.ref b1), .unset, .unset] [(.int (Int32.ofNat j))])
  refine Go.st (T' := T4) (g' := (mkF m 14 #[.val (.ref b), .val (.int (0 : Int32)), .val (.int (Int32.ofNat n)), .val (.ref b1), .val (.int (Int32.ofNat j)), .unset] [])) (fun _ zk => XS.istore X4.here hx rfl (hb hby d18_12) rfl (l' := #[.val (.ref b), .val (.int (0 : Int32)), .val (.int (Int32.ofNat n)), .val (.ref b1), .val (.int (Int32.ofNat j)), .unset]) rfl zk) ?_
  refine Go.st (T' := T4) (g' := (mkF m 16 #[.val (.ref b), .val (.int (0 : Int32)), .val (.int (Int32.ofNat n)), .val (.ref b1), .val (.int (Int32.ofNat j)), .unset] [(.int (Int32.ofNat j))])) (fun _ zk => XS.iload X4.here hx rfl (hb hby d18_14) rfl zk) ?_
  refine Go.st (T' := T4) (g' := (mkF m 17 #[.val (.ref b), .val (.int (0 : Int32)), .val (.int (Int32.ofNat n)), .val (.ref b1), .val (.int (Int32.ofNat j)), .unset] [(.int (Int32.ofNat n)), (.int (Int32.ofNat j))])) (fun _ zk => XS.iloadN X4.here hx rfl (hb hby d18_16) rfl zk) ?_
  by_cases hc17 : (Int32.ofNat j) = (Int32.ofNat n)
  · refine Go.st (T' := T4) (g' := (mkF m 57 #[.val (.ref b), .val (.int (0 : Int32)), .val (.int (Int32.ofNat n)), .val (.ref b1), .val (.int (Int32.ofNat j)), .unset] [])) (fun _ zk => XS.icmpYes X4.here hx rfl (pc0 := 17) (pc' := 57) rfl (hb hby d18_17) rfl (teq hc17).1 (by decide) (by decide) zk) ?_
    refine Go.st (T' := T4) (g' := (mkF m 58 #[.val (.ref b), .val (.int (0 : Int32)), .val (.int (Int32.ofNat n)), .val (.ref b1), .val (.int (Int32.ofNat j)), .unset] [(.ref b1)])) (fun _ zk => XS.aloadN X4.here hx rfl (hb hby d18_57) rfl rfl zk) ?_
    have xt5 : Ext h0 h4 := (xt2.thenK K4 (allS (P := fun x => h0.size ≤ x) (Nat.le_of_eq g1.symm) all0))
    refine Go.retA X4 hx hlk hret rfl rfl (hb hby d18_58) (by decide) (by decide) e4 ?_
    have hjn : j = n := own_ofinj (by omega) (by omega) hc17
    subst hjn
    refine ⟨_, k1, 0, xs, rfl, N4, xt5, (Nat.le_trans (Nat.le_refl _) (Nat.le_of_eq g1.symm)), Or.inl ⟨rfl, hl, hj3, hj4⟩, ?_⟩
    rw [hl]; exact V4
  · refine Go.st (T' := T4) (g' := (mkF m 20 #[.val (.ref b), .val (.int (0 : Int32)), .val (.int (Int32.ofNat n)), .val (.ref b1), .val (.int (Int32.ofNat j)), .unset] [])) (fun _ zk => XS.icmpNo X4.here hx rfl (hb hby d18_17) rfl (feq hc17).1 zk) ?_
    refine Go.st (T' := T4) (g' := (mkF m 21 #[.val (.ref b), .val (.int (0 : Int32)), .val (.int (Int32.ofNat n)), .val (.ref b1), .val (.int (Int32.ofNat j)), .unset] [(.ref b)])) (fun _ zk => XS.aloadN X4.here hx rfl (hb hby d18_20) rfl rfl zk) ?_
    refine Go.st (T' := T4) (g' := (mkF m 22 #[.val (.ref b), .val (.int (0 : Int32)), .val (.int (Int32.ofNat n)), .val (.ref b1), .val (.int (Int32.ofNat j)), .unset] [(.int (0 : Int32)), (.ref b)])) (fun _ zk => XS.iloadN X4.here hx rfl (hb hby d18_21) rfl zk) ?_
    refine Go.st (T' := T4) (g' := (mkF m 23 #[.val (.ref b), .val (.int (0 : Int32)), .val (.int (Int32.ofNat n)), .val (.ref b1), .val (.int (Int32.ofNat j)), .unset] [(.int (Int32.ofNat n)), (.int (0 : Int32)), (.ref b)])) (fun _ zk => XS.iloadN X4.here hx rfl (hb hby d18_22) rfl zk) ?_
    have hjn : j < n := Nat.lt_of_le_of_ne hj1 fun q => hc17 (by rw [q])
    have f6 := (f3.keep K4 (ninS (ne_lt VC.lt (Nat.le_refl _) (Nat.le_of_eq g1.symm)) nin0))
    have xt8 : Ext h0 h4 := (xt2.thenK K4 (allS (P := fun x => h0.size ≤ x) (Nat.le_of_eq g1.symm) all0))
    have f9 := O0.ext xt8
    refine Go.callSt (y := (⟨"java/lang/StringUTF16", "toBytes", "([CII)[B"⟩ : MethodName)) X4 hx hZ hown e4 (w140 hw) (w141 hw) (w110 hw) (w142 hw) (by decide) (argsL := [(.ref b), (.int (0 : Int32)), (.int (Int32.ofNat n))]) (rest := []) (W := 0) (rm_tobW l Z a0 hw [] b kC cs n h4 n0 (Nat.le_trans Z0 (Nat.le_trans E1.1 K4.1)) f9 f6 hcap hcs hn UA UH UL) rfl (lenOf pd5 rfl) rfl (by rw [hml]; rfl) rfl (by show 2 * 0 + _ ≤ _; exact Nat.le_of_eq rfl) (by decide) (by decide) (by decide) (by decide) (hb hby d18_23) ?_
    intro v7 T7 h7 L7 X7 e7 q7
    obtain ⟨t, kt, ys, hv7, Nf7, E7, ge7, hy, V7, hy2⟩ := q7
    subst hv7
    have N7 := Fr.app N4 Nf7
    show Go p.tables e below _ T7 (mkF m 26 #[.val (.ref b), .val (.int (0 : Int32)), .val (.int (Int32.ofNat n)), .val (.ref b1), .val (.int (Int32.ofNat j)), .unset] [(.ref t)])
    refine Go.st (T' := T7) (g' := (mkF m 28 #[.val (.ref b), .val (.int (0 : Int32)), .val (.int (Int32.ofNat n)), .val (.ref b1), .val (.int (Int32.ofNat j)), .val (.ref t)] [])) (fun _ zk => XS.astore X7.here hx rfl (hb hby d18_26) rfl rfl (l' := #[.val (.ref b), .val (.int (0 : Int32)), .val (.int (Int32.ofNat n)), .val (.ref b1), .val (.int (Int32.ofNat j)), .val (.ref t)]) rfl zk) ?_
    refine Go.st (T' := T7) (g' := (mkF m 30 #[.val (.ref b), .val (.int (0 : Int32)), .val (.int (Int32.ofNat n)), .val (.ref b1), .val (.int (Int32.ofNat j)), .val (.ref t)] [(.ref t)])) (fun _ zk => XS.aload X7.here hx rfl (hb hby d18_28) rfl rfl zk) ?_
    refine Go.st (T' := T7) (g' := (mkF m 32 #[.val (.ref b), .val (.int (0 : Int32)), .val (.int (Int32.ofNat n)), .val (.ref b1), .val (.int (Int32.ofNat j)), .val (.ref t)] [(.int (Int32.ofNat j)), (.ref t)])) (fun _ zk => XS.iload X7.here hx rfl (hb hby d18_30) rfl zk) ?_
    have xt11 : Ext h4 h7 := E7
    have f12 := f9.ext xt11
    refine Go.callSt (y := (⟨"java/lang/StringUTF16", "getChar", "([BI)C"⟩ : MethodName)) X7 hx hZ hown e7 (w156 hw) (w157 hw) (w110 hw) (w158 hw) (by decide) (argsL := [(.ref t), (.int (Int32.ofNat j))]) (rest := []) (W := 0) (rm_getW l Z a0 hw [] t kt ys (2 * n) j h7 n0 (Nat.le_trans Z0 (Nat.le_trans (Nat.le_trans E1.1 K4.1) E7.1)) f12 V7 hy (by omega) (by omega) UA UH UL) rfl (lenOf pd6 rfl) rfl (by rw [hml]; rfl) rfl (by show 2 * 0 + _ ≤ _; exact Nat.le_of_eq rfl) (by decide) (by decide) (by decide) (by decide) (hb hby d18_32) ?_
    intro v10 T10 h10 L10 X10 e10 q10
    obtain ⟨hv10, Nf10, hh10⟩ := q10
    subst hv10
    have E10 : T10.heap = h7 := e10.trans hh10
    have N10 := Fr.app N7 Nf10
    show Go p.tables e below _ T10 (mkF m 35 #[.val (.ref b), .val (.int (0 : Int32)), .val (.int (Int32.ofNat n)), .val (.ref b1), .val (.int (Int32.ofNat j)), .val (.ref t)] [(.int (((((ys.getD (2 * j) 0) &&& (255 : Int32)) <<< ((0 : Int32) &&& 31)) ||| (((ys.getD (2 * j + 1) 0) &&& (255 : Int32)) <<< ((8 : Int32) &&& 31))).toUInt32.toUInt16.toUInt32.toInt32))])
    rw [(hy2 j hjn).1, (hy2 j hjn).2, own_cc (own_rg hr hcs hjn)]
    refine Go.st (T' := T10) (g' := (mkF m 38 #[.val (.ref b), .val (.int (0 : Int32)), .val (.int (Int32.ofNat n)), .val (.ref b1), .val (.int (Int32.ofNat j)), .val (.ref t)] [(.int (255 : Int32)), (.int (cs.getD j 0))])) (fun _ zk => XS.sipush X10.here hx rfl (hb hby d18_35) zk) ?_
    refine Go.st (T' := T10) (g' := (mkF m 54 #[.val (.ref b), .val (.int (0 : Int32)), .val (.int (Int32.ofNat n)), .val (.ref b1), .val (.int (Int32.ofNat j)), .val (.ref t)] [])) (fun _ zk => XS.icmpYes X10.here hx rfl (pc0 := 38) (pc' := 54) rfl (hb hby d18_38) rfl (tlt (hj2 hjn : (255 : Int32) < (cs.getD j 0))).2.2.1 (by decide) (by decide) zk) ?_
    refine Go.st (T' := T10) (g' := (mkF m 56 #[.val (.ref b), .val (.int (0 : Int32)), .val (.int (Int32.ofNat n)), .val (.ref b1), .val (.int (Int32.ofNat j)), .val (.ref t)] [(.ref t)])) (fun _ zk => XS.aload X10.here hx rfl (hb hby d18_54) rfl rfl zk) ?_
    have xt13 : Ext h0 h7 := (xt8.tr E7)
    refine Go.retA X10 hx hlk hret rfl rfl (hb hby d18_56) (by decide) (by decide) E10 ?_
    refine ⟨t, kt, 1, ys, rfl, N10, xt13, (Nat.le_trans (Nat.le_trans E1.1 K4.1) ge7), Or.inr ⟨rfl, hy, ⟨j, hjn, hj2 hjn⟩, hy2⟩, ?_⟩
    rw [hy]; exact V7
theorem d20_0 : decode jdk_52_method_15_code 0 = .ok (.iload_n 1, 1) := by decide +kernel
theorem d20_1 : decode jdk_52_method_15_code 1 = .ok (.aload_n 0, 1) := by decide +kernel
theorem d20_2 : decode jdk_52_method_15_code 2 = .ok (.arraylength, 1) := by decide +kernel
theorem d20_3 : decode jdk_52_method_15_code 3 = .ok (.isub, 1) := by decide +kernel
theorem d20_4 : decode jdk_52_method_15_code 4 = .ok (.bipush 31, 2) := by decide +kernel
theorem d20_6 : decode jdk_52_method_15_code 6 = .ok (.iushr, 1) := by decide +kernel
theorem d20_7 : decode jdk_52_method_15_code 7 = .ok (.i2b, 1) := by decide +kernel
theorem d20_8 : decode jdk_52_method_15_code 8 = .ok (.ireturn, 1) := by decide +kernel
def rr_codW : Room := { frames := 0, cells := 0, slots := 0, locals := 0 }
set_option maxRecDepth 65536 in
set_option maxHeartbeats 40000000 in
theorem rm_codW (l : Launch) (Z : State) (a0 : Array Value) (hw : ∀ d ∈ tables_1, d.before a0 Z = true) (ws : List Jvm.Cond) (t : Addr) (k : ClassId) (cs xs : List Int32) (cd : Int32) (n : Nat) (h0 : Heap) (n0 : Nat) (Z0 : n0 ≤ h0.size) (V1 : Arv Z h0 t k .byte (Int32.ofNat xs.length) (xs.map Value.int) (.int (0 : Int32))) (He : Enc n cs xs cd) (h0n : 0 < n) (hn : n < 2 ^ 30) :
    Con l Z (⟨"java/lang/StringUTF16", "coderFromArrayLen", "([BI)B"⟩ : MethodName) jdk_52_method_15_code 2 (some .byte) ws rr_codW #[(.ref t), (.int (Int32.ofNat n))] h0 (fun v h L => v = some (.int cd) ∧ Fr n0 L ∧ h = h0) := by
  refine Con.enter (plainFor_of_name pn0) ?_
  intro p e s m below meth c s₁ X0 hx hZ hby hml hret hlk hown hnm e0
  have N0 := Fr.nil n0
  refine Go.cast (g' := (mkF m 0 #[.val (.ref t), .val (.int (Int32.ofNat n))] [])) (by first | rfl | (simp [entryFrame, mkF, argsToLocals, Value.category]; done)) ?_
  refine Go.st (T' := s₁) (g' := (mkF m 1 #[.val (.ref t), .val (.int (Int32.ofNat n))] [(.int (Int32.ofNat n))])) (fun _ zk => XS.iloadN X0.here hx rfl (hb hby d20_0) rfl zk) ?_
  refine Go.st (T' := s₁) (g' := (mkF m 2 #[.val (.ref t), .val (.int (Int32.ofNat n))] [(.ref t), (.int (Int32.ofNat n))])) (fun _ zk => XS.aloadN X0.here hx rfl (hb hby d20_1) rfl rfl zk) ?_
  refine Go.st (T' := s₁) (g' := (mkF m 3 #[.val (.ref t), .val (.int (Int32.ofNat n))] [(.int (Int32.ofNat xs.length)), (.int (Int32.ofNat n))])) (fun _ zk => lenV X0 hx hZ e0 V1 (g := (mkF m 2 #[.val (.ref t), .val (.int (Int32.ofNat n))] [(.ref t), (.int (Int32.ofNat n))])) rfl (rest := [(.int (Int32.ofNat n))]) rfl (hb hby d20_2) zk) ?_
  refine Go.st (T' := s₁) (g' := (mkF m 4 #[.val (.ref t), .val (.int (Int32.ofNat n))] [(.int ((Int32.ofNat n) - (Int32.ofNat xs.length)))])) (fun _ zk => XS.isub X0.here hx rfl (hb hby d20_3) rfl zk) ?_
  refine Go.st (T' := s₁) (g' := (mkF m 6 #[.val (.ref t), .val (.int (Int32.ofNat n))] [(.int (31 : Int32)), (.int ((Int32.ofNat n) - (Int32.ofNat xs.length)))])) (fun _ zk => XS.bipush X0.here hx rfl (hb hby d20_4) zk) ?_
  refine Go.st (T' := s₁) (g' := (mkF m 7 #[.val (.ref t), .val (.int (Int32.ofNat n))] [(.int ((((Int32.ofNat n) - (Int32.ofNat xs.length)).toUInt32 >>> ((31 : Int32) &&& 31).toUInt32).toInt32))])) (fun _ zk => XS.iushr X0.here hx rfl (hb hby d20_6) rfl zk) ?_
  refine Go.st (T' := s₁) (g' := (mkF m 8 #[.val (.ref t), .val (.int (Int32.ofNat n))] [(.int (((((Int32.ofNat n) - (Int32.ofNat xs.length)).toUInt32 >>> ((31 : Int32) &&& 31).toUInt32).toInt32).toInt8.toInt32))])) (fun _ zk => XS.i2b X0.here hx rfl (hb hby d20_7) rfl zk) ?_
  rw [own_cod He h0n hn]
  refine Go.retN X0 hx hlk hret (own_narB He.cd) (by simp) (hb hby d20_8) (by decide) (by decide) e0 ?_
  exact ⟨rfl, N0, rfl⟩
theorem d3_0 : decode jdk_42_method_149_code 0 = .ok (.aload_n 0, 1) := by decide +kernel
theorem d3_1 : decode jdk_42_method_149_code 1 = .ok (.invokespecial 1, 3) := by decide +kernel
theorem w16 {a0 : Array Value} {Z : State} (hw : ∀ d ∈ tables_1, d.before a0 Z = true) : ((Jvm.Cond.methodLink "java/lang/String" (1 : Nat) ({ cls := "java/lang/Object", name := "<init>", desc := "()V" } : Jvm.MethodName))).before a0 Z = true := hw _ (List.mem_of_getElem? (i := 16) rfl)
theorem w17 {a0 : Array Value} {Z : State} (hw : ∀ d ∈ tables_1, d.before a0 Z = true) : ((Jvm.Cond.instanceMethod ({ cls := "java/lang/Object", name := "<init>", desc := "()V" } : Jvm.MethodName))).before a0 Z = true := hw _ (List.mem_of_getElem? (i := 17) rfl)
theorem w18 {a0 : Array Value} {Z : State} (hw : ∀ d ∈ tables_1, d.before a0 Z = true) : ((Jvm.Cond.code ({ cls := "java/lang/Object", name := "<init>", desc := "()V" } : Jvm.MethodName) object_method_1_code (1 : Nat) (Option.none : Option Jvm.ClassFile.FieldType))).before a0 Z = true := hw _ (List.mem_of_getElem? (i := 18) rfl)
theorem d3_4 : decode jdk_42_method_149_code 4 = .ok (.iload_n 3, 1) := by decide +kernel
theorem d3_5 : decode jdk_42_method_149_code 5 = .ok (.ifCond .ne 22, 3) := by decide +kernel
theorem d3_27 : decode jdk_42_method_149_code 27 = .ok (.getstatic 38, 3) := by decide +kernel
theorem w101 {a0 : Array Value} {Z : State} (hw : ∀ d ∈ tables_1, d.before a0 Z = true) : ((Jvm.Cond.fieldLink "java/lang/String" (38 : Nat) "java/lang/String" "COMPACT_STRINGS" "Z")).before a0 Z = true := hw _ (List.mem_of_getElem? (i := 101) rfl)
theorem d3_30 : decode jdk_42_method_149_code 30 = .ok (.ifCond .eq 28, 3) := by decide +kernel
theorem d3_33 : decode jdk_42_method_149_code 33 = .ok (.aload_n 1, 1) := by decide +kernel
theorem d3_34 : decode jdk_42_method_149_code 34 = .ok (.iload_n 2, 1) := by decide +kernel
theorem d3_35 : decode jdk_42_method_149_code 35 = .ok (.iload_n 3, 1) := by decide +kernel
theorem w111 {a0 : Array Value} {Z : State} (hw : ∀ d ∈ tables_1, d.before a0 Z = true) : ((Jvm.Cond.code ({ cls := "java/lang/StringUTF16", name := "compress", desc := "([CII)[B" } : Jvm.MethodName) jdk_52_method_16_code (6 : Nat) (Option.some (Jvm.ClassFile.FieldType.array Jvm.ClassFile.FieldType.byte)))).before a0 Z = true := hw _ (List.mem_of_getElem? (i := 111) rfl)
theorem d3_36 : decode jdk_42_method_149_code 36 = .ok (.invokestatic 177, 3) := by decide +kernel
theorem w108 {a0 : Array Value} {Z : State} (hw : ∀ d ∈ tables_1, d.before a0 Z = true) : ((Jvm.Cond.methodLink "java/lang/String" (177 : Nat) ({ cls := "java/lang/StringUTF16", name := "compress", desc := "([CII)[B" } : Jvm.MethodName))).before a0 Z = true := hw _ (List.mem_of_getElem? (i := 108) rfl)
theorem w109 {a0 : Array Value} {Z : State} (hw : ∀ d ∈ tables_1, d.before a0 Z = true) : ((Jvm.Cond.static ({ cls := "java/lang/StringUTF16", name := "compress", desc := "([CII)[B" } : Jvm.MethodName))).before a0 Z = true := hw _ (List.mem_of_getElem? (i := 109) rfl)
theorem d3_39 : decode jdk_42_method_149_code 39 = .ok (.astore 5, 2) := by decide +kernel
theorem d3_41 : decode jdk_42_method_149_code 41 = .ok (.aload_n 0, 1) := by decide +kernel
theorem d3_42 : decode jdk_42_method_149_code 42 = .ok (.aload 5, 2) := by decide +kernel
theorem d3_44 : decode jdk_42_method_149_code 44 = .ok (.iload_n 3, 1) := by decide +kernel
theorem w117 {a0 : Array Value} {Z : State} (hw : ∀ d ∈ tables_1, d.before a0 Z = true) : ((Jvm.Cond.code ({ cls := "java/lang/StringUTF16", name := "coderFromArrayLen", desc := "([BI)B" } : Jvm.MethodName) jdk_52_method_15_code (2 : Nat) (Option.some Jvm.ClassFile.FieldType.byte))).before a0 Z = true := hw _ (List.mem_of_getElem? (i := 117) rfl)
theorem pd7 : parseMethodDescriptor "([BI)B" = some ⟨[(.array .byte), .int], some .byte⟩ := by decide +kernel
theorem d3_45 : decode jdk_42_method_149_code 45 = .ok (.invokestatic 47, 3) := by decide +kernel
theorem w115 {a0 : Array Value} {Z : State} (hw : ∀ d ∈ tables_1, d.before a0 Z = true) : ((Jvm.Cond.methodLink "java/lang/String" (47 : Nat) ({ cls := "java/lang/StringUTF16", name := "coderFromArrayLen", desc := "([BI)B" } : Jvm.MethodName))).before a0 Z = true := hw _ (List.mem_of_getElem? (i := 115) rfl)
theorem w116 {a0 : Array Value} {Z : State} (hw : ∀ d ∈ tables_1, d.before a0 Z = true) : ((Jvm.Cond.static ({ cls := "java/lang/StringUTF16", name := "coderFromArrayLen", desc := "([BI)B" } : Jvm.MethodName))).before a0 Z = true := hw _ (List.mem_of_getElem? (i := 116) rfl)
theorem d3_48 : decode jdk_42_method_149_code 48 = .ok (.putfield 15, 3) := by decide +kernel
theorem w26 {a0 : Array Value} {Z : State} (hw : ∀ d ∈ tables_1, d.before a0 Z = true) : ((Jvm.Cond.fieldLink "java/lang/String" (15 : Nat) "java/lang/String" "coder" "B")).before a0 Z = true := hw _ (List.mem_of_getElem? (i := 26) rfl)
theorem w6 {a0 : Array Value} {Z : State} (hw : ∀ d ∈ tables_1, d.before a0 Z = true) : ((Jvm.Cond.instantiable "java/lang/String" (4 : Nat))).before a0 Z = true := hw _ (List.mem_of_getElem? (i := 6) rfl)
theorem w22 {a0 : Array Value} {Z : State} (hw : ∀ d ∈ tables_1, d.before a0 Z = true) : ((Jvm.Cond.laysFinal "java/lang/String" "java/lang/String" "coder" "B")).before a0 Z = true := hw _ (List.mem_of_getElem? (i := 22) rfl)
theorem d3_51 : decode jdk_42_method_149_code 51 = .ok (.aload_n 0, 1) := by decide +kernel
theorem d3_52 : decode jdk_42_method_149_code 52 = .ok (.aload 5, 2) := by decide +kernel
theorem d3_54 : decode jdk_42_method_149_code 54 = .ok (.putfield 9, 3) := by decide +kernel
theorem w25 {a0 : Array Value} {Z : State} (hw : ∀ d ∈ tables_1, d.before a0 Z = true) : ((Jvm.Cond.fieldLink "java/lang/String" (9 : Nat) "java/lang/String" "value" "[B")).before a0 Z = true := hw _ (List.mem_of_getElem? (i := 25) rfl)
theorem w21 {a0 : Array Value} {Z : State} (hw : ∀ d ∈ tables_1, d.before a0 Z = true) : ((Jvm.Cond.laysFinal "java/lang/String" "java/lang/String" "value" "[B")).before a0 Z = true := hw _ (List.mem_of_getElem? (i := 21) rfl)
theorem d3_57 : decode jdk_42_method_149_code 57 = .ok (.return_, 1) := by decide +kernel
def rr_init4W : Room := { frames := 4, cells := 2, slots := 9, locals := 57 }
theorem pn8 : plainName "java/lang/String" = true := by first | (simp [plainName, overriddenIn]; done) | decide +kernel
set_option maxRecDepth 65536 in
set_option maxHeartbeats 40000000 in
theorem rm_init4W (l : Launch) (Z : State) (a0 : Array Value) (hw : ∀ d ∈ tables_1, d.before a0 Z = true) (ws : List Jvm.Cond) (a1 b : Addr) (kC : ClassId) (cs : List Int32) (n : Nat) (zc : Int32) (h0 : Heap) (n0 : Nat) (Z0 : n0 ≤ h0.size) (O0 : Old Z n0 h0) (E0 : Exa Z h0 a1 "java/lang/String") (g0 : n0 ≤ a1) (C0 : Fld Z h0 a1 "java/lang/String" "coder" "B" (.int (0 : Int32))) (V0 : Fld Z h0 a1 "java/lang/String" "value" "[B" .null) (VC : Arv Z h0 b kC .char (Int32.ofNat n) (cs.map Value.int) (.int (0 : Int32))) (hcap : n ≤ 3) (hcs : cs.length = n) (hn : n < 2 ^ 30) (h0n : 0 < n) (hr : ∀ c ∈ cs, 0 ≤ c.toInt ∧ c.toInt < 65536) (CS : Sta Z Z.heap "java/lang/String" "COMPACT_STRINGS" "Z" (.int zc)) (hz : ¬ zc = 0) (UA : Sta Z Z.heap "java/lang/StringUTF16" "$assertionsDisabled" "Z" (.int (1 : Int32))) (UH : Sta Z Z.heap "java/lang/StringUTF16" "HI_BYTE_SHIFT" "I" (.int (0 : Int32))) (UL : Sta Z Z.heap "java/lang/StringUTF16" "LO_BYTE_SHIFT" "I" (.int (8 : Int32))) :
    Con l Z (⟨"java/lang/String", "<init>", "([CIILjava/lang/Void;)V"⟩ : MethodName) jdk_42_method_149_code 6 none ws rr_init4W #[(.ref a1), (.ref b), (.int (0 : Int32)), (.int (Int32.ofNat n)), .null] h0 (fun v h L => v = none ∧ Fr n0 L ∧ Keep h0 h [a1] ∧ StrC Z h a1 n cs) := by
  refine Con.enter (plainFor_of_name pn8) ?_
  intro p e s m below meth c s₁ X0 hx hZ hby hml hret hlk hown hnm e0
  have N0 := Fr.nil n0
  refine Go.cast (g' := (mkF m 0 #[.val (.ref a1), .val (.ref b), .val (.int (0 : Int32)), .val (.int (Int32.ofNat n)), .val .null, .unset] [])) (by first | rfl | (simp [entryFrame, mkF, argsToLocals, Value.category]; done)) ?_
  refine Go.st (T' := s₁) (g' := (mkF m 1 #[.val (.ref a1), .val (.ref b), .val (.int (0 : Int32)), .val (.int (Int32.ofNat n)), .val .null, .unset] [(.ref a1)])) (fun _ zk => XS.aloadN X0.here hx rfl (hb hby d3_0) rfl rfl zk) ?_
  obtain ⟨T1, X1, e1, st1⟩ := initO X0 hx hZ hown (w16 hw) (w17 hw) (w18 hw) e0 (g := (mkF m 1 #[.val (.ref a1), .val (.ref b), .val (.int (0 : Int32)), .val (.int (Int32.ofNat n)), .val .null, .unset] [(.ref a1)])) rfl (by rw [hml]; rfl) rfl (hb hby d3_1) (by decide) (W := 0) (by show 2 * 0 + _ ≤ _; exact Nat.le_of_eq rfl) (by decide)
  refine Go.st (T' := T1) (g' := (mkF m 4 #[.val (.ref a1), .val (.ref b), .val (.int (0 : Int32)), .val (.int (Int32.ofNat n)), .val .null, .unset] [])) (fun _ zk => st1 _ zk) ?_
  refine Go.st (T' := T1) (g' := (mkF m 5 #[.val (.ref a1), .val (.ref b), .val (.int (0 : Int32)), .val (.int (Int32.ofNat n)), .val .null, .unset] [(.int (Int32.ofNat n))])) (fun _ zk => XS.iloadN X1.here hx rfl (hb hby d3_4) rfl zk) ?_
  refine Go.st (T' := T1) (g' := (mkF m 27 #[.val (.ref a1), .val (.ref b), .val (.int (0 : Int32)), .val (.int (Int32.ofNat n)), .val .null, .unset] [])) (fun _ zk => XS.ifYes X1.here hx rfl (pc0 := 5) (pc' := 27) rfl (hb hby d3_5) rfl ((if0 _ _).trans (feq (own_posn h0n hn : ¬ ((Int32.ofNat n) = (0 : Int32)))).2) (by decide) (by decide) zk) ?_
  obtain ⟨T2, X2, e2, st2⟩ := getS2 X1 hx hZ hown (host := "") (Or.inl (w101 hw)) Via.refl e1 (CS.ext O0.2) (g := (mkF m 27 #[.val (.ref a1), .val (.ref b), .val (.int (0 : Int32)), .val (.int (Int32.ofNat n)), .val .null, .unset] [])) rfl (hb hby d3_27)
  refine Go.st (T' := T2) (g' := (mkF m 30 #[.val (.ref a1), .val (.ref b), .val (.int (0 : Int32)), .val (.int (Int32.ofNat n)), .val .null, .unset] [(.int zc)])) (fun _ zk => st2 _ zk) ?_
  refine Go.st (T' := T2) (g' := (mkF m 33 #[.val (.ref a1), .val (.ref b), .val (.int (0 : Int32)), .val (.int (Int32.ofNat n)), .val .null, .unset] [])) (fun _ zk => XS.ifNo X2.here hx rfl (hb hby d3_30) rfl ((if0 _ _).trans (feq (hz : ¬ (zc = (0 : Int32)))).1) zk) ?_
  refine Go.st (T' := T2) (g' := (mkF m 34 #[.val (.ref a1), .val (.ref b), .val (.int (0 : Int32)), .val (.int (Int32.ofNat n)), .val .null, .unset] [(.ref b)])) (fun _ zk => XS.aloadN X2.here hx rfl (hb hby d3_33) rfl rfl zk) ?_
  refine Go.st (T' := T2) (g' := (mkF m 35 #[.val (.ref a1), .val (.ref b), .val (.int (0 : Int32)), .val (.int (Int32.ofNat n)), .val .null, .unset] [(.int (0 : Int32)), (.ref b)])) (fun _ zk => XS.iloadN X2.here hx rfl (hb hby d3_34) rfl zk) ?_
  refine Go.st (T' := T2) (g' := (mkF m 36 #[.val (.ref a1), .val (.ref b), .val (.int (0 : Int32)), .val (.int (Int32.ofNat n)), .val .null, .unset] [(.int (Int32.ofNat n)), (.int (0 : Int32)), (.ref b)])) (fun _ zk => XS.iloadN X2.here hx rfl (hb hby d3_35) rfl zk) ?_
  refine Go.callSt (y := (⟨"java/lang/StringUTF16", "compress", "([CII)[B"⟩ : MethodName)) X2 hx hZ hown e2 (w108 hw) (w109 hw) (w110 hw) (w111 hw) (by decide) (argsL := [(.ref b), (.int (0 : Int32)), (.int (Int32.ofNat n))]) (rest := []) (W := 0) (rm_cmp3W l Z a0 hw [] b kC cs n h0 n0 Z0 O0 VC hcap hcs hn hr UA UH UL) rfl (lenOf pd5 rfl) rfl (by rw [hml]; rfl) rfl (by show 2 * 0 + _ ≤ _; exact Nat.le_of_eq rfl) (by decide) (by decide) (by decide) (by decide) (hb hby d3_36) ?_
  intro v3 T3 h3 L3 X3 e3 q3
  obtain ⟨t, kt, cd, ys, hv3, Nf3, E3, ge3, He, V3⟩ := q3
  subst hv3
  have N3 := Fr.app N0 Nf3
  show Go p.tables e below _ T3 (mkF m 39 #[.val (.ref a1), .val (.ref b), .val (.int (0 : Int32)), .val (.int (Int32.ofNat n)), .val .null, .unset] [(.ref t)])
  refine Go.st (T' := T3) (g' := (mkF m 41 #[.val (.ref a1), .val (.ref b), .val (.int (0 : Int32)), .val (.int (Int32.ofNat n)), .val .null, .val (.ref t)] [])) (fun _ zk => XS.astore X3.here hx rfl (hb hby d3_39) rfl rfl (l' := #[.val (.ref a1), .val (.ref b), .val (.int (0 : Int32)), .val (.int (Int32.ofNat n)), .val .null, .val (.ref t)]) rfl zk) ?_
  refine Go.st (T' := T3) (g' := (mkF m 42 #[.val (.ref a1), .val (.ref b), .val (.int (0 : Int32)), .val (.int (Int32.ofNat n)), .val .null, .val (.ref t)] [(.ref a1)])) (fun _ zk => XS.aloadN X3.here hx rfl (hb hby d3_41) rfl rfl zk) ?_
  refine Go.st (T' := T3) (g' := (mkF m 44 #[.val (.ref a1), .val (.ref b), .val (.int (0 : Int32)), .val (.int (Int32.ofNat n)), .val .null, .val (.ref t)] [(.ref t), (.ref a1)])) (fun _ zk => XS.aload X3.here hx rfl (hb hby d3_42) rfl rfl zk) ?_
  refine Go.st (T' := T3) (g' := (mkF m 45 #[.val (.ref a1), .val (.ref b), .val (.int (0 : Int32)), .val (.int (Int32.ofNat n)), .val .null, .val (.ref t)] [(.int (Int32.ofNat n)), (.ref t), (.ref a1)])) (fun _ zk => XS.iloadN X3.here hx rfl (hb hby d3_44) rfl zk) ?_
  refine Go.callSt (y := (⟨"java/lang/StringUTF16", "coderFromArrayLen", "([BI)B"⟩ : MethodName)) X3 hx hZ hown e3 (w115 hw) (w116 hw) (w110 hw) (w117 hw) (by decide) (argsL := [(.ref t), (.int (Int32.ofNat n))]) (rest := [(.ref a1)]) (W := 1) (rm_codW l Z a0 hw [] t kt cs ys cd n h3 n0 (Nat.le_trans Z0 E3.1) V3 He h0n hn) rfl (lenOf pd7 rfl) rfl (by rw [hml]; rfl) rfl (by show 2 * 0 + _ ≤ _; exact Nat.le_of_eq rfl) (by decide) (by decide) (by decide) (by decide) (hb hby d3_45) ?_
  intro v4 T4 h4 L4 X4 e4 q4
  obtain ⟨hv4, Nf4, hh4⟩ := q4
  subst hv4
  have E4 : T4.heap = h3 := e4.trans hh4
  have N4 := Fr.app N3 Nf4
  show Go p.tables e below _ T4 (mkF m 48 #[.val (.ref a1), .val (.ref b), .val (.int (0 : Int32)), .val (.int (Int32.ofNat n)), .val .null, .val (.ref t)] [(.int cd), (.ref a1)])
  have xt6 : Ext h0 h3 := E3
  have f7 := C0.ext xt6
  have f8 := E0.ext xt6
  obtain ⟨T5, h5, X5, e5, W5, st5⟩ := putF X4 hx hZ hown (host := "") (Or.inl (w26 hw)) Via.refl E4 f7 f8 (Or.inr ⟨(w22 hw), rfl, hnm⟩) (w6 hw) (v := (.int cd)) (ty := .byte) (by decide) (own_narB He.cd) (own_fitB He.cd) (g := (mkF m 48 #[.val (.ref a1), .val (.ref b), .val (.int (0 : Int32)), .val (.int (Int32.ofNat n)), .val .null, .val (.ref t)] [(.int cd), (.ref a1)])) rfl rfl (hb hby d3_48)
  have F5 := f7.same W5
  have N5 := Fr.snoc X5 N4 g0
  refine Go.st (T' := T5) (g' := (mkF m 51 #[.val (.ref a1), .val (.ref b), .val (.int (0 : Int32)), .val (.int (Int32.ofNat n)), .val .null, .val (.ref t)] [])) (fun _ zk => st5 _ zk) ?_
  refine Go.st (T' := T5) (g' := (mkF m 52 #[.val (.ref a1), .val (.ref b), .val (.int (0 : Int32)), .val (.int (Int32.ofNat n)), .val .null, .val (.ref t)] [(.ref a1)])) (fun _ zk => XS.aloadN X5.here hx rfl (hb hby d3_51) rfl rfl zk) ?_
  refine Go.st (T' := T5) (g' := (mkF m 54 #[.val (.ref a1), .val (.ref b), .val (.int (0 : Int32)), .val (.int (Int32.ofNat n)), .val .null, .val (.ref t)] [(.ref t), (.ref a1)])) (fun _ zk => XS.aload X5.here hx rfl (hb hby d3_52) rfl rfl zk) ?_
  have f10 := ((V0.ext E3).other W5 (Or.inr (slot_ne (Or.inr (w21 hw)) (Or.inr (w22 hw)) (by decide) (t := (.array .byte)) (t' := .byte) (by decide) (by decide))))
  have f11 := (f8.wr W5)
  obtain ⟨T9, h9, X9, e9, W9, st9⟩ := putF X5 hx hZ hown (host := "") (Or.inl (w25 hw)) Via.refl e5 f10 f11 (Or.inr ⟨(w21 hw), rfl, hnm⟩) (w6 hw) (ty := (.array .byte)) (by decide) rfl rfl (g := (mkF m 54 #[.val (.ref a1), .val (.ref b), .val (.int (0 : Int32)), .val (.int (Int32.ofNat n)), .val .null, .val (.ref t)] [(.ref t), (.ref a1)])) rfl rfl (hb hby d3_54)
  have F9 := f10.same W9
  have N9 := Fr.snoc X9 N5 g0
  refine Go.st (T' := T9) (g' := (mkF m 57 #[.val (.ref a1), .val (.ref b), .val (.int (0 : Int32)), .val (.int (Int32.ofNat n)), .val .null, .val (.ref t)] [])) (fun _ zk => st9 _ zk) ?_
  have f12 := (f11.wr W9)
  have f13 := (F5.other W9 (Or.inr (slot_ne (Or.inr (w22 hw)) (Or.inr (w21 hw)) (by decide) (t := .byte) (t' := (.array .byte)) (by decide) (by decide))))
  have f14 := ((V3.other W5 (Ne.symm (ne_lt E0.lt (Nat.le_refl _) ge3))).other W9 (Ne.symm (ne_lt E0.lt (Nat.le_refl _) ge3)))
  refine Go.retV X9 hx hlk hret (hb hby d3_57) (by decide) (by decide) e9 ?_
  exact ⟨rfl, N9, ((((Keep.refl h0 [a1]).ext E3).wr W5 (Or.inl (List.mem_of_getElem? (i := 0) rfl))).wr W9 (Or.inl (List.mem_of_getElem? (i := 0) rfl))), cd, ys, He, t, kt, f12, f13, F9, f14⟩
theorem d2_0 : decode jdk_42_method_3_code 0 = .ok (.aload_n 0, 1) := by decide +kernel
theorem d2_1 : decode jdk_42_method_3_code 1 = .ok (.aload_n 1, 1) := by decide +kernel
theorem d2_2 : decode jdk_42_method_3_code 2 = .ok (.iconst 0, 1) := by decide +kernel
theorem d2_3 : decode jdk_42_method_3_code 3 = .ok (.aload_n 1, 1) := by decide +kernel
theorem d2_4 : decode jdk_42_method_3_code 4 = .ok (.arraylength, 1) := by decide +kernel
theorem d2_5 : decode jdk_42_method_3_code 5 = .ok (.aconst_null, 1) := by decide +kernel
theorem w15 {a0 : Array Value} {Z : State} (hw : ∀ d ∈ tables_1, d.before a0 Z = true) : ((Jvm.Cond.code ({ cls := "java/lang/String", name := "<init>", desc := "([CIILjava/lang/Void;)V" } : Jvm.MethodName) jdk_42_method_149_code (6 : Nat) (Option.none : Option Jvm.ClassFile.FieldType))).before a0 Z = true := hw _ (List.mem_of_getElem? (i := 15) rfl)
theorem w7 {a0 : Array Value} {Z : State} (hw : ∀ d ∈ tables_1, d.before a0 Z = true) : ((Jvm.Cond.initialized "java/lang/String")).before a0 Z = true := hw _ (List.mem_of_getElem? (i := 7) rfl)
theorem pd9 : parseMethodDescriptor "([CIILjava/lang/Void;)V" = some ⟨[(.array .char), .int, .int, (.object "java/lang/Void")], none⟩ := by decide +kernel
theorem d2_6 : decode jdk_42_method_3_code 6 = .ok (.invokespecial 27, 3) := by decide +kernel
theorem w12 {a0 : Array Value} {Z : State} (hw : ∀ d ∈ tables_1, d.before a0 Z = true) : ((Jvm.Cond.methodLink "java/lang/String" (27 : Nat) ({ cls := "java/lang/String", name := "<init>", desc := "([CIILjava/lang/Void;)V" } : Jvm.MethodName))).before a0 Z = true := hw _ (List.mem_of_getElem? (i := 12) rfl)
theorem w13 {a0 : Array Value} {Z : State} (hw : ∀ d ∈ tables_1, d.before a0 Z = true) : ((Jvm.Cond.instanceMethod ({ cls := "java/lang/String", name := "<init>", desc := "([CIILjava/lang/Void;)V" } : Jvm.MethodName))).before a0 Z = true := hw _ (List.mem_of_getElem? (i := 13) rfl)
theorem d2_9 : decode jdk_42_method_3_code 9 = .ok (.return_, 1) := by decide +kernel
def rr_init1W : Room := { frames := 5, cells := 2, slots := 9, locals := 74 }
set_option maxRecDepth 65536 in
set_option maxHeartbeats 40000000 in
theorem rm_init1W (l : Launch) (Z : State) (a0 : Array Value) (hw : ∀ d ∈ tables_1, d.before a0 Z = true) (ws : List Jvm.Cond) (a1 b : Addr) (kC : ClassId) (cs : List Int32) (n : Nat) (zc : Int32) (h0 : Heap) (n0 : Nat) (Z0 : n0 ≤ h0.size) (O0 : Old Z n0 h0) (E0 : Exa Z h0 a1 "java/lang/String") (g0 : n0 ≤ a1) (C0 : Fld Z h0 a1 "java/lang/String" "coder" "B" (.int (0 : Int32))) (V0 : Fld Z h0 a1 "java/lang/String" "value" "[B" .null) (VC : Arv Z h0 b kC .char (Int32.ofNat n) (cs.map Value.int) (.int (0 : Int32))) (hcap : n ≤ 3) (hcs : cs.length = n) (hn : n < 2 ^ 30) (h0n : 0 < n) (hr : ∀ c ∈ cs, 0 ≤ c.toInt ∧ c.toInt < 65536) (CS : Sta Z Z.heap "java/lang/String" "COMPACT_STRINGS" "Z" (.int zc)) (hz : ¬ zc = 0) (UA : Sta Z Z.heap "java/lang/StringUTF16" "$assertionsDisabled" "Z" (.int (1 : Int32))) (UH : Sta Z Z.heap "java/lang/StringUTF16" "HI_BYTE_SHIFT" "I" (.int (0 : Int32))) (UL : Sta Z Z.heap "java/lang/StringUTF16" "LO_BYTE_SHIFT" "I" (.int (8 : Int32))) :
    Con l Z (⟨"java/lang/String", "<init>", "([C)V"⟩ : MethodName) jdk_42_method_3_code 2 none ws rr_init1W #[(.ref a1), (.ref b)] h0 (fun v h L => v = none ∧ Fr n0 L ∧ Keep h0 h [a1] ∧ StrC Z h a1 n cs) := by
  refine Con.enter (plainFor_of_name pn8) ?_
  intro p e s m below meth c s₁ X0 hx hZ hby hml hret hlk hown hnm e0
  have N0 := Fr.nil n0
  refine Go.cast (g' := (mkF m 0 #[.val (.ref a1), .val (.ref b)] [])) (by first | rfl | (simp [entryFrame, mkF, argsToLocals, Value.category]; done)) ?_
  refine Go.st (T' := s₁) (g' := (mkF m 1 #[.val (.ref a1), .val (.ref b)] [(.ref a1)])) (fun _ zk => XS.aloadN X0.here hx rfl (hb hby d2_0) rfl rfl zk) ?_
  refine Go.st (T' := s₁) (g' := (mkF m 2 #[.val (.ref a1), .val (.ref b)] [(.ref b), (.ref a1)])) (fun _ zk => XS.aloadN X0.here hx rfl (hb hby d2_1) rfl rfl zk) ?_
  refine Go.st (T' := s₁) (g' := (mkF m 3 #[.val (.ref a1), .val (.ref b)] [(.int (0 : Int32)), (.ref b), (.ref a1)])) (fun _ zk => XS.iconst X0.here hx rfl (hb hby d2_2) zk) ?_
  refine Go.st (T' := s₁) (g' := (mkF m 4 #[.val (.ref a1), .val (.ref b)] [(.ref b), (.int (0 : Int32)), (.ref b), (.ref a1)])) (fun _ zk => XS.aloadN X0.here hx rfl (hb hby d2_3) rfl rfl zk) ?_
  refine Go.st (T' := s₁) (g' := (mkF m 5 #[.val (.ref a1), .val (.ref b)] [(.int (Int32.ofNat n)), (.int (0 : Int32)), (.ref b), (.ref a1)])) (fun _ zk => lenV X0 hx hZ e0 VC (g := (mkF m 4 #[.val (.ref a1), .val (.ref b)] [(.ref b), (.int (0 : Int32)), (.ref b), (.ref a1)])) rfl (rest := [(.int (0 : Int32)), (.ref b), (.ref a1)]) rfl (hb hby d2_4) zk) ?_
  refine Go.st (T' := s₁) (g' := (mkF m 6 #[.val (.ref a1), .val (.ref b)] [.null, (.int (Int32.ofNat n)), (.int (0 : Int32)), (.ref b), (.ref a1)])) (fun _ zk => XS.aconstNull X0.here hx rfl (hb hby d2_5) zk) ?_
  refine Go.callSp (y := (⟨"java/lang/String", "<init>", "([CIILjava/lang/Void;)V"⟩ : MethodName)) (a := a1) X0 hx hZ hown e0 rfl (w12 hw) (w13 hw) (w7 hw) (w15 hw) (by decide) (argsL := [(.ref b), (.int (0 : Int32)), (.int (Int32.ofNat n)), .null]) (rest := []) (W := 0) (rm_init4W l Z a0 hw [] a1 b kC cs n zc h0 n0 Z0 O0 E0 g0 C0 V0 VC hcap hcs hn h0n hr CS hz UA UH UL) rfl (lenOf pd9 rfl) rfl (by rw [hml]; rfl) rfl (by show 2 * 0 + _ ≤ _; exact Nat.le_of_eq rfl) (by decide) (by decide) (by decide) (by decide) (hb hby d2_6) ?_
  intro v1 T1 h1 L1 X1 e1 q1
  obtain ⟨hv1, Nf1, K1, SC⟩ := q1
  subst hv1
  have N1 := Fr.app N0 Nf1
  show Go p.tables e below _ T1 (mkF m 9 #[.val (.ref a1), .val (.ref b)] [])
  refine Go.retV X1 hx hlk hret (hb hby d2_9) (by decide) (by decide) e1 ?_
  exact ⟨rfl, N1, ((Keep.refl h0 [a1]).trans K1 (allS (P := fun x => x ∈ [a1] ∨ h0.size ≤ x) (Or.inl (List.mem_of_getElem? (i := 0) rfl)) all0)), SC⟩
theorem d16_0 : decode jdk_42_method_152_code 0 = .ok (.getstatic 38, 3) := by decide +kernel
theorem d16_3 : decode jdk_42_method_152_code 3 = .ok (.ifCond .eq 10, 3) := by decide +kernel
theorem d16_6 : decode jdk_42_method_152_code 6 = .ok (.aload_n 0, 1) := by decide +kernel
theorem d16_7 : decode jdk_42_method_152_code 7 = .ok (.getfield 15, 3) := by decide +kernel
theorem d16_10 : decode jdk_42_method_152_code 10 = .ok (.goto 4, 3) := by decide +kernel
theorem d16_14 : decode jdk_42_method_152_code 14 = .ok (.ireturn, 1) := by decide +kernel
def rr_coderG : Room := { frames := 0, cells := 0, slots := 0, locals := 0 }
set_option maxRecDepth 65536 in
set_option maxHeartbeats 40000000 in
theorem rm_coderG (l : Launch) (Z : State) (a0 : Array Value) (hw : ∀ d ∈ tables_1, d.before a0 Z = true) (ws : List Jvm.Cond) (a1 : Addr) (cd zc : Int32) (h0 : Heap) (n0 : Nat) (Z0 : n0 ≤ h0.size) (O0 : Old Z n0 h0) (F0 : Fld Z h0 a1 "java/lang/String" "coder" "B" (.int cd)) (hcd : cd = 0 ∨ cd = 1) (CS : Sta Z Z.heap "java/lang/String" "COMPACT_STRINGS" "Z" (.int zc)) (hz : ¬ zc = 0) :
    Con l Z (⟨"java/lang/String", "coder", "()B"⟩ : MethodName) jdk_42_method_152_code 1 (some .byte) ws rr_coderG #[(.ref a1)] h0 (fun v h L => v = some (.int cd) ∧ Fr n0 L ∧ h = h0) := by
  refine Con.enter (plainFor_of_name pn8) ?_
  intro p e s m below meth c s₁ X0 hx hZ hby hml hret hlk hown hnm e0
  have N0 := Fr.nil n0
  refine Go.cast (g' := (mkF m 0 #[.val (.ref a1)] [])) (by first | rfl | (simp [entryFrame, mkF, argsToLocals, Value.category]; done)) ?_
  obtain ⟨T1, X1, e1, st1⟩ := getS2 X0 hx hZ hown (host := "") (Or.inl (w101 hw)) Via.refl e0 (CS.ext O0.2) (g := (mkF m 0 #[.val (.ref a1)] [])) rfl (hb hby d16_0)
  refine Go.st (T' := T1) (g' := (mkF m 3 #[.val (.ref a1)] [(.int zc)])) (fun _ zk => st1 _ zk) ?_
  refine Go.st (T' := T1) (g' := (mkF m 6 #[.val (.ref a1)] [])) (fun _ zk => XS.ifNo X1.here hx rfl (hb hby d16_3) rfl ((if0 _ _).trans (feq (hz : ¬ (zc = (0 : Int32)))).1) zk) ?_
  refine Go.st (T' := T1) (g' := (mkF m 7 #[.val (.ref a1)] [(.ref a1)])) (fun _ zk => XS.aloadN X1.here hx rfl (hb hby d16_6) rfl rfl zk) ?_
  obtain ⟨T2, X2, e2, st2⟩ := getF X1 hx hZ hown (host := "") (Or.inl (w26 hw)) Via.refl e1 F0 (g := (mkF m 7 #[.val (.ref a1)] [(.ref a1)])) rfl rfl (hb hby d16_7)
  refine Go.st (T' := T2) (g' := (mkF m 10 #[.val (.ref a1)] [(.int cd)])) (fun _ zk => st2 _ zk) ?_
  refine Go.st (T' := T2) (g' := (mkF m 14 #[.val (.ref a1)] [(.int cd)])) (fun _ zk => XS.goto X2.here hx rfl (pc0 := 10) (pc' := 14) rfl (hb hby d16_10) (by decide) (by decide) zk) ?_
  refine Go.retN X2 hx hlk hret (by rcases hcd with rfl | rfl <;> rfl) (by simp) (hb hby d16_14) (by decide) (by decide) e2 ?_
  exact ⟨rfl, N0, rfl⟩
theorem d15_0 : decode jdk_42_method_54_code 0 = .ok (.aload_n 0, 1) := by decide +kernel
theorem d15_1 : decode jdk_42_method_54_code 1 = .ok (.getfield 9, 3) := by decide +kernel
theorem d15_4 : decode jdk_42_method_54_code 4 = .ok (.arraylength, 1) := by decide +kernel
theorem d15_5 : decode jdk_42_method_54_code 5 = .ok (.aload_n 0, 1) := by decide +kernel
theorem w100 {a0 : Array Value} {Z : State} (hw : ∀ d ∈ tables_1, d.before a0 Z = true) : ((Jvm.Cond.code ({ cls := "java/lang/String", name := "coder", desc := "()B" } : Jvm.MethodName) jdk_42_method_152_code (1 : Nat) (Option.some Jvm.ClassFile.FieldType.byte))).before a0 Z = true := hw _ (List.mem_of_getElem? (i := 100) rfl)
theorem pd10 : parseMethodDescriptor "()B" = some ⟨[], some .byte⟩ := by decide +kernel
theorem d15_6 : decode jdk_42_method_54_code 6 = .ok (.invokevirtual 335, 3) := by decide +kernel
theorem w99 {a0 : Array Value} {Z : State} (hw : ∀ d ∈ tables_1, d.before a0 Z = true) : ((Jvm.Cond.selects "java/lang/String" ({ cls := "java/lang/String", name := "coder", desc := "()B" } : Jvm.MethodName) ({ cls := "java/lang/String", name := "coder", desc := "()B" } : Jvm.MethodName))).before a0 Z = true := hw _ (List.mem_of_getElem? (i := 99) rfl)
theorem w98 {a0 : Array Value} {Z : State} (hw : ∀ d ∈ tables_1, d.before a0 Z = true) : ((Jvm.Cond.instanceMethod ({ cls := "java/lang/String", name := "coder", desc := "()B" } : Jvm.MethodName))).before a0 Z = true := hw _ (List.mem_of_getElem? (i := 98) rfl)
theorem w96 {a0 : Array Value} {Z : State} (hw : ∀ d ∈ tables_1, d.before a0 Z = true) : ((Jvm.Cond.methodLink "java/lang/String" (335 : Nat) ({ cls := "java/lang/String", name := "coder", desc := "()B" } : Jvm.MethodName))).before a0 Z = true := hw _ (List.mem_of_getElem? (i := 96) rfl)
theorem w97 {a0 : Array Value} {Z : State} (hw : ∀ d ∈ tables_1, d.before a0 Z = true) : ((Jvm.Cond.declares ({ cls := "java/lang/String", name := "coder", desc := "()B" } : Jvm.MethodName))).before a0 Z = true := hw _ (List.mem_of_getElem? (i := 97) rfl)
theorem d15_9 : decode jdk_42_method_54_code 9 = .ok (.ishr, 1) := by decide +kernel
theorem d15_10 : decode jdk_42_method_54_code 10 = .ok (.ireturn, 1) := by decide +kernel
def rr_lengthW : Room := { frames := 1, cells := 0, slots := 0, locals := 13 }
set_option maxRecDepth 65536 in
set_option maxHeartbeats 40000000 in
theorem rm_lengthW (l : Launch) (Z : State) (a0 : Array Value) (hw : ∀ d ∈ tables_1, d.before a0 Z = true) (ws : List Jvm.Cond) (a1 : Addr) (cs : List Int32) (n : Nat) (zc : Int32) (h0 : Heap) (n0 : Nat) (Z0 : n0 ≤ h0.size) (O0 : Old Z n0 h0) (SC : StrC Z h0 a1 n cs) (hn : n < 2 ^ 30) (CS : Sta Z Z.heap "java/lang/String" "COMPACT_STRINGS" "Z" (.int zc)) (hz : ¬ zc = 0) :
    Con l Z (⟨"java/lang/String", "length", "()I"⟩ : MethodName) jdk_42_method_54_code 1 (some .int) ws rr_lengthW #[(.ref a1)] h0 (fun v h L => v = some (.int (Int32.ofNat n)) ∧ Fr n0 L ∧ h = h0) := by
  refine Con.enter (plainFor_of_name pn8) ?_
  intro p e s m below meth c s₁ X0 hx hZ hby hml hret hlk hown hnm e0
  have N0 := Fr.nil n0
  refine Go.cast (g' := (mkF m 0 #[.val (.ref a1)] [])) (by first | rfl | (simp [entryFrame, mkF, argsToLocals, Value.category]; done)) ?_
  obtain ⟨cd, xs, He, S1⟩ := SC
  obtain ⟨t1, k1, E_a1, C_a1, F_a1, V_a1⟩ := S1
  refine Go.st (T' := s₁) (g' := (mkF m 1 #[.val (.ref a1)] [(.ref a1)])) (fun _ zk => XS.aloadN X0.here hx rfl (hb hby d15_0) rfl rfl zk) ?_
  obtain ⟨T1, X1, e1, st1⟩ := getF X0 hx hZ hown (host := "") (Or.inl (w25 hw)) Via.refl e0 F_a1 (g := (mkF m 1 #[.val (.ref a1)] [(.ref a1)])) rfl rfl (hb hby d15_1)
  refine Go.st (T' := T1) (g' := (mkF m 4 #[.val (.ref a1)] [(.ref t1)])) (fun _ zk => st1 _ zk) ?_
  refine Go.st (T' := T1) (g' := (mkF m 5 #[.val (.ref a1)] [(.int (Int32.ofNat xs.length))])) (fun _ zk => lenV X1 hx hZ e1 V_a1 (g := (mkF m 4 #[.val (.ref a1)] [(.ref t1)])) rfl (rest := []) rfl (hb hby d15_4) zk) ?_
  refine Go.st (T' := T1) (g' := (mkF m 6 #[.val (.ref a1)] [(.ref a1), (.int (Int32.ofNat xs.length))])) (fun _ zk => XS.aloadN X1.here hx rfl (hb hby d15_5) rfl rfl zk) ?_
  refine Go.callV (y := (⟨"java/lang/String", "coder", "()B"⟩ : MethodName)) (z := (⟨"java/lang/String", "coder", "()B"⟩ : MethodName)) (C := "java/lang/String") (a := a1) X1 hx hZ hown e1 (w96 hw) (w97 hw) (w99 hw) (w98 hw) (w7 hw) (w100 hw) (notFace_of_selects (args := #[]) (mvT hZ (w99 hw))) (by decide) E_a1 (argsL := []) (rest := [(.int (Int32.ofNat xs.length))]) (W := 1) (rm_coderG l Z a0 hw [] a1 cd zc h0 n0 Z0 O0 C_a1 He.cd CS hz) rfl (lenOf pd10 rfl) rfl (by rw [hml]; rfl) rfl (by show 2 * 0 + _ ≤ _; exact Nat.le_of_eq rfl) (by decide) (by decide) (by decide) (by decide) (hb hby d15_6) ?_
  intro v2 T2 h2 L2 X2 e2 q2
  obtain ⟨hv2, Nf2, hh2⟩ := q2
  subst hv2
  have E2 : T2.heap = h0 := e2.trans hh2
  have N2 := Fr.app N0 Nf2
  show Go p.tables e below _ T2 (mkF m 9 #[.val (.ref a1)] [(.int cd), (.int (Int32.ofNat xs.length))])
  refine Go.st (T' := T2) (g' := (mkF m 10 #[.val (.ref a1)] [(.int ((Int32.ofNat xs.length) >>> (cd &&& 31)))])) (fun _ zk => XS.ishr X2.here hx rfl (hb hby d15_9) rfl zk) ?_
  refine Go.retN X2 hx hlk hret rfl (by simp) (hb hby d15_10) (by decide) (by decide) E2 ?_
  rw [own_lenC He hn]
  exact ⟨rfl, N2, rfl⟩
theorem d22_0 : decode jdk_42_method_154_code 0 = .ok (.getstatic 38, 3) := by decide +kernel
theorem d22_3 : decode jdk_42_method_154_code 3 = .ok (.ifCond .eq 14, 3) := by decide +kernel
theorem d22_6 : decode jdk_42_method_154_code 6 = .ok (.aload_n 0, 1) := by decide +kernel
theorem d22_7 : decode jdk_42_method_154_code 7 = .ok (.getfield 15, 3) := by decide +kernel
theorem d22_10 : decode jdk_42_method_154_code 10 = .ok (.ifCond .ne 7, 3) := by decide +kernel
theorem d22_13 : decode jdk_42_method_154_code 13 = .ok (.iconst 1, 1) := by decide +kernel
theorem d22_14 : decode jdk_42_method_154_code 14 = .ok (.goto 4, 3) := by decide +kernel
theorem d22_18 : decode jdk_42_method_154_code 18 = .ok (.ireturn, 1) := by decide +kernel
def rr_isLatin1G : Room := { frames := 0, cells := 0, slots := 0, locals := 0 }
set_option maxRecDepth 65536 in
set_option maxHeartbeats 40000000 in
theorem rm_isLatin1G (l : Launch) (Z : State) (a0 : Array Value) (hw : ∀ d ∈ tables_1, d.before a0 Z = true) (ws : List Jvm.Cond) (a1 : Addr) (zc : Int32) (h0 : Heap) (n0 : Nat) (Z0 : n0 ≤ h0.size) (O0 : Old Z n0 h0) (F0 : Fld Z h0 a1 "java/lang/String" "coder" "B" (.int (0 : Int32))) (CS : Sta Z Z.heap "java/lang/String" "COMPACT_STRINGS" "Z" (.int zc)) (hz : ¬ zc = 0) :
    Con l Z (⟨"java/lang/String", "isLatin1", "()Z"⟩ : MethodName) jdk_42_method_154_code 1 (some .boolean) ws rr_isLatin1G #[(.ref a1)] h0 (fun v h L => v = some (.int 1) ∧ Fr n0 L ∧ h = h0) := by
  refine Con.enter (plainFor_of_name pn8) ?_
  intro p e s m below meth c s₁ X0 hx hZ hby hml hret hlk hown hnm e0
  have N0 := Fr.nil n0
  refine Go.cast (g' := (mkF m 0 #[.val (.ref a1)] [])) (by first | rfl | (simp [entryFrame, mkF, argsToLocals, Value.category]; done)) ?_
  obtain ⟨T1, X1, e1, st1⟩ := getS2 X0 hx hZ hown (host := "") (Or.inl (w101 hw)) Via.refl e0 (CS.ext O0.2) (g := (mkF m 0 #[.val (.ref a1)] [])) rfl (hb hby d22_0)
  refine Go.st (T' := T1) (g' := (mkF m 3 #[.val (.ref a1)] [(.int zc)])) (fun _ zk => st1 _ zk) ?_
  refine Go.st (T' := T1) (g' := (mkF m 6 #[.val (.ref a1)] [])) (fun _ zk => XS.ifNo X1.here hx rfl (hb hby d22_3) rfl ((if0 _ _).trans (feq (hz : ¬ (zc = (0 : Int32)))).1) zk) ?_
  refine Go.st (T' := T1) (g' := (mkF m 7 #[.val (.ref a1)] [(.ref a1)])) (fun _ zk => XS.aloadN X1.here hx rfl (hb hby d22_6) rfl rfl zk) ?_
  obtain ⟨T2, X2, e2, st2⟩ := getF X1 hx hZ hown (host := "") (Or.inl (w26 hw)) Via.refl e1 F0 (g := (mkF m 7 #[.val (.ref a1)] [(.ref a1)])) rfl rfl (hb hby d22_7)
  refine Go.st (T' := T2) (g' := (mkF m 10 #[.val (.ref a1)] [(.int (0 : Int32))])) (fun _ zk => st2 _ zk) ?_
  refine Go.st (T' := T2) (g' := (mkF m 13 #[.val (.ref a1)] [])) (fun _ zk => XS.ifNo X2.here hx rfl (hb hby d22_10) rfl ((if0 _ _).trans (teq (rfl : (0 : Int32) = (0 : Int32))).2) zk) ?_
  refine Go.st (T' := T2) (g' := (mkF m 14 #[.val (.ref a1)] [(.int (1 : Int32))])) (fun _ zk => XS.iconst X2.here hx rfl (hb hby d22_13) zk) ?_
  refine Go.st (T' := T2) (g' := (mkF m 18 #[.val (.ref a1)] [(.int (1 : Int32))])) (fun _ zk => XS.goto X2.here hx rfl (pc0 := 14) (pc' := 18) rfl (hb hby d22_14) (by decide) (by decide) zk) ?_
  refine Go.retN X2 hx hlk hret rfl (by simp) (hb hby d22_18) (by decide) (by decide) e2 ?_
  exact ⟨rfl, N0, rfl⟩
theorem d25_0 : decode jdk_41_method_11_code 0 = .ok (.iload_n 0, 1) := by decide +kernel
theorem d25_1 : decode jdk_41_method_11_code 1 = .ok (.ifCond .lt 8, 3) := by decide +kernel
theorem d25_4 : decode jdk_41_method_11_code 4 = .ok (.iload_n 0, 1) := by decide +kernel
theorem d25_5 : decode jdk_41_method_11_code 5 = .ok (.iload_n 1, 1) := by decide +kernel
theorem d25_6 : decode jdk_41_method_11_code 6 = .ok (.if_icmp .lt 10, 3) := by decide +kernel
theorem d25_16 : decode jdk_41_method_11_code 16 = .ok (.iload_n 0, 1) := by decide +kernel
theorem d25_17 : decode jdk_41_method_11_code 17 = .ok (.ireturn, 1) := by decide +kernel
def rr_preIdx : Room := { frames := 0, cells := 0, slots := 0, locals := 0 }
theorem pn11 : plainName "jdk/internal/util/Preconditions" = true := by first | (simp [plainName, overriddenIn]; done) | decide +kernel
set_option maxRecDepth 65536 in
set_option maxHeartbeats 40000000 in
theorem rm_preIdx (l : Launch) (Z : State) (a0 : Array Value) (hw : ∀ d ∈ tables_1, d.before a0 Z = true) (ws : List Jvm.Cond) (j n : Int32) (fm : Value) (h0 : Heap) (n0 : Nat) (Z0 : n0 ≤ h0.size) (rf : fm.isRef = true) (h1 : ¬ j < 0) (h2 : j < n) :
    Con l Z (⟨"jdk/internal/util/Preconditions", "checkIndex", "(IILjava/util/function/BiFunction;)I"⟩ : MethodName) jdk_41_method_11_code 3 (some .int) ws rr_preIdx #[(.int j), (.int n), fm] h0 (fun v h L => v = some (.int j) ∧ Fr n0 L ∧ h = h0) := by
  refine Con.enter (plainFor_of_name pn11) ?_
  intro p e s m below meth c s₁ X0 hx hZ hby hml hret hlk hown hnm e0
  have N0 := Fr.nil n0
  refine Go.cast (g' := (mkF m 0 #[.val (.int j), .val (.int n), .val fm] [])) (by rcases ref_cases rf with rfl | ⟨_, rfl⟩ <;> first | rfl | (simp [entryFrame, mkF, argsToLocals, Value.category]; done)) ?_
  refine Go.st (T' := s₁) (g' := (mkF m 1 #[.val (.int j), .val (.int n), .val fm] [(.int j)])) (fun _ zk => XS.iloadN X0.here hx rfl (hb hby d25_0) rfl zk) ?_
  refine Go.st (T' := s₁) (g' := (mkF m 4 #[.val (.int j), .val (.int n), .val fm] [])) (fun _ zk => XS.ifNo X0.here hx rfl (hb hby d25_1) rfl ((if0 _ _).trans (flt (h1 : ¬ (j < (0 : Int32)))).1) zk) ?_
  refine Go.st (T' := s₁) (g' := (mkF m 5 #[.val (.int j), .val (.int n), .val fm] [(.int j)])) (fun _ zk => XS.iloadN X0.here hx rfl (hb hby d25_4) rfl zk) ?_
  refine Go.st (T' := s₁) (g' := (mkF m 6 #[.val (.int j), .val (.int n), .val fm] [(.int n), (.int j)])) (fun _ zk => XS.iloadN X0.here hx rfl (hb hby d25_5) rfl zk) ?_
  refine Go.st (T' := s₁) (g' := (mkF m 16 #[.val (.int j), .val (.int n), .val fm] [])) (fun _ zk => XS.icmpYes X0.here hx rfl (pc0 := 6) (pc' := 16) rfl (hb hby d25_6) rfl (tlt (h2 : j < n)).1 (by decide) (by decide) zk) ?_
  refine Go.st (T' := s₁) (g' := (mkF m 17 #[.val (.int j), .val (.int n), .val fm] [(.int j)])) (fun _ zk => XS.iloadN X0.here hx rfl (hb hby d25_16) rfl zk) ?_
  refine Go.retN X0 hx hlk hret rfl (by simp) (hb hby d25_17) (by decide) (by decide) e0 ?_
  exact ⟨rfl, N0, rfl⟩
theorem d24_0 : decode jdk_42_method_155_code 0 = .ok (.iload_n 0, 1) := by decide +kernel
theorem d24_1 : decode jdk_42_method_155_code 1 = .ok (.iload_n 1, 1) := by decide +kernel
theorem d24_2 : decode jdk_42_method_155_code 2 = .ok (.getstatic 1053, 3) := by decide +kernel
theorem w135 {a0 : Array Value} {Z : State} (hw : ∀ d ∈ tables_1, d.before a0 Z = true) : ((Jvm.Cond.fieldLink "java/lang/String" (1053 : Nat) "jdk/internal/util/Preconditions" "SIOOBE_FORMATTER" "Ljava/util/function/BiFunction;")).before a0 Z = true := hw _ (List.mem_of_getElem? (i := 135) rfl)
theorem w139 {a0 : Array Value} {Z : State} (hw : ∀ d ∈ tables_1, d.before a0 Z = true) : ((Jvm.Cond.code ({ cls := "jdk/internal/util/Preconditions", name := "checkIndex", desc := "(IILjava/util/function/BiFunction;)I" } : Jvm.MethodName) jdk_41_method_11_code (3 : Nat) (Option.some Jvm.ClassFile.FieldType.int))).before a0 Z = true := hw _ (List.mem_of_getElem? (i := 139) rfl)
theorem w136 {a0 : Array Value} {Z : State} (hw : ∀ d ∈ tables_1, d.before a0 Z = true) : ((Jvm.Cond.initialized "jdk/internal/util/Preconditions")).before a0 Z = true := hw _ (List.mem_of_getElem? (i := 136) rfl)
theorem pd12 : parseMethodDescriptor "(IILjava/util/function/BiFunction;)I" = some ⟨[.int, .int, (.object "java/util/function/BiFunction")], some .int⟩ := by decide +kernel
theorem d24_5 : decode jdk_42_method_155_code 5 = .ok (.invokestatic 1059, 3) := by decide +kernel
theorem w137 {a0 : Array Value} {Z : State} (hw : ∀ d ∈ tables_1, d.before a0 Z = true) : ((Jvm.Cond.methodLink "java/lang/String" (1059 : Nat) ({ cls := "jdk/internal/util/Preconditions", name := "checkIndex", desc := "(IILjava/util/function/BiFunction;)I" } : Jvm.MethodName))).before a0 Z = true := hw _ (List.mem_of_getElem? (i := 137) rfl)
theorem w138 {a0 : Array Value} {Z : State} (hw : ∀ d ∈ tables_1, d.before a0 Z = true) : ((Jvm.Cond.static ({ cls := "jdk/internal/util/Preconditions", name := "checkIndex", desc := "(IILjava/util/function/BiFunction;)I" } : Jvm.MethodName))).before a0 Z = true := hw _ (List.mem_of_getElem? (i := 138) rfl)
theorem d24_8 : decode jdk_42_method_155_code 8 = .ok (.pop, 1) := by decide +kernel
theorem d24_9 : decode jdk_42_method_155_code 9 = .ok (.return_, 1) := by decide +kernel
def rr_strIdx : Room := { frames := 1, cells := 0, slots := 0, locals := 14 }
set_option maxRecDepth 65536 in
set_option maxHeartbeats 40000000 in
theorem rm_strIdx (l : Launch) (Z : State) (a0 : Array Value) (hw : ∀ d ∈ tables_1, d.before a0 Z = true) (ws : List Jvm.Cond) (j n : Int32) (fm : Value) (h0 : Heap) (n0 : Nat) (Z0 : n0 ≤ h0.size) (O0 : Old Z n0 h0) (FM : Sta Z Z.heap "jdk/internal/util/Preconditions" "SIOOBE_FORMATTER" "Ljava/util/function/BiFunction;" fm) (rf : fm.isRef = true) (h1 : ¬ j < 0) (h2 : j < n) :
    Con l Z (⟨"java/lang/String", "checkIndex", "(II)V"⟩ : MethodName) jdk_42_method_155_code 2 none ws rr_strIdx #[(.int j), (.int n)] h0 (fun v h L => v = none ∧ Fr n0 L ∧ h = h0) := by
  refine Con.enter (plainFor_of_name pn8) ?_
  intro p e s m below meth c s₁ X0 hx hZ hby hml hret hlk hown hnm e0
  have N0 := Fr.nil n0
  refine Go.cast (g' := (mkF m 0 #[.val (.int j), .val (.int n)] [])) (by first | rfl | (simp [entryFrame, mkF, argsToLocals, Value.category]; done)) ?_
  refine Go.st (T' := s₁) (g' := (mkF m 1 #[.val (.int j), .val (.int n)] [(.int j)])) (fun _ zk => XS.iloadN X0.here hx rfl (hb hby d24_0) rfl zk) ?_
  refine Go.st (T' := s₁) (g' := (mkF m 2 #[.val (.int j), .val (.int n)] [(.int n), (.int j)])) (fun _ zk => XS.iloadN X0.here hx rfl (hb hby d24_1) rfl zk) ?_
  obtain ⟨T1, X1, e1, st1⟩ := getS2 X0 hx hZ hown (host := "") (Or.inl (w135 hw)) Via.refl e0 (FM.ext O0.2) (g := (mkF m 2 #[.val (.int j), .val (.int n)] [(.int n), (.int j)])) rfl (hb hby d24_2)
  refine Go.st (T' := T1) (g' := (mkF m 5 #[.val (.int j), .val (.int n)] [fm, (.int n), (.int j)])) (fun _ zk => st1 _ zk) ?_
  refine Go.callSt (y := (⟨"jdk/internal/util/Preconditions", "checkIndex", "(IILjava/util/function/BiFunction;)I"⟩ : MethodName)) X1 hx hZ hown e1 (w137 hw) (w138 hw) (w136 hw) (w139 hw) (by decide) (argsL := [(.int j), (.int n), fm]) (rest := []) (W := 0) (rm_preIdx l Z a0 hw [] j n fm h0 n0 Z0 rf h1 h2) rfl (lenOf pd12 rfl) rfl (by rw [hml]; rfl) rfl (by show 2 * 0 + _ ≤ _; exact Nat.le_of_eq rfl) (by decide) (by decide) (by decide) (by decide) (hb hby d24_5) ?_
  intro v2 T2 h2 L2 X2 e2 q2
  obtain ⟨hv2, Nf2, hh2⟩ := q2
  subst hv2
  have E2 : T2.heap = h0 := e2.trans hh2
  have N2 := Fr.app N0 Nf2
  show Go p.tables e below _ T2 (mkF m 8 #[.val (.int j), .val (.int n)] [(.int j)])
  refine Go.st (T' := T2) (g' := (mkF m 9 #[.val (.int j), .val (.int n)] [])) (fun _ zk => XS.pop X2.here hx rfl (hb hby d24_8) rfl rfl zk) ?_
  refine Go.retV X2 hx hlk hret (hb hby d24_9) (by decide) (by decide) E2 ?_
  exact ⟨rfl, N2, rfl⟩
theorem d23_0 : decode jdk_43_method_2_code 0 = .ok (.iload_n 1, 1) := by decide +kernel
theorem d23_1 : decode jdk_43_method_2_code 1 = .ok (.aload_n 0, 1) := by decide +kernel
theorem d23_2 : decode jdk_43_method_2_code 2 = .ok (.arraylength, 1) := by decide +kernel
theorem w134 {a0 : Array Value} {Z : State} (hw : ∀ d ∈ tables_1, d.before a0 Z = true) : ((Jvm.Cond.code ({ cls := "java/lang/String", name := "checkIndex", desc := "(II)V" } : Jvm.MethodName) jdk_42_method_155_code (2 : Nat) (Option.none : Option Jvm.ClassFile.FieldType))).before a0 Z = true := hw _ (List.mem_of_getElem? (i := 134) rfl)
theorem pd13 : parseMethodDescriptor "(II)V" = some ⟨[.int, .int], none⟩ := by decide +kernel
theorem d23_3 : decode jdk_43_method_2_code 3 = .ok (.invokestatic 9, 3) := by decide +kernel
theorem w132 {a0 : Array Value} {Z : State} (hw : ∀ d ∈ tables_1, d.before a0 Z = true) : ((Jvm.Cond.methodLink "java/lang/StringLatin1" (9 : Nat) ({ cls := "java/lang/String", name := "checkIndex", desc := "(II)V" } : Jvm.MethodName))).before a0 Z = true := hw _ (List.mem_of_getElem? (i := 132) rfl)
theorem w133 {a0 : Array Value} {Z : State} (hw : ∀ d ∈ tables_1, d.before a0 Z = true) : ((Jvm.Cond.static ({ cls := "java/lang/String", name := "checkIndex", desc := "(II)V" } : Jvm.MethodName))).before a0 Z = true := hw _ (List.mem_of_getElem? (i := 133) rfl)
theorem d23_6 : decode jdk_43_method_2_code 6 = .ok (.aload_n 0, 1) := by decide +kernel
theorem d23_7 : decode jdk_43_method_2_code 7 = .ok (.iload_n 1, 1) := by decide +kernel
theorem d23_8 : decode jdk_43_method_2_code 8 = .ok (.baload, 1) := by decide +kernel
theorem d23_9 : decode jdk_43_method_2_code 9 = .ok (.sipush 255, 3) := by decide +kernel
theorem d23_12 : decode jdk_43_method_2_code 12 = .ok (.iand, 1) := by decide +kernel
theorem d23_13 : decode jdk_43_method_2_code 13 = .ok (.i2c, 1) := by decide +kernel
theorem d23_14 : decode jdk_43_method_2_code 14 = .ok (.ireturn, 1) := by decide +kernel
def rr_latinAt : Room := { frames := 2, cells := 0, slots := 0, locals := 27 }
theorem pn14 : plainName "java/lang/StringLatin1" = true := by first | (simp [plainName, overriddenIn]; done) | decide +kernel
set_option maxRecDepth 65536 in
set_option maxHeartbeats 40000000 in
theorem rm_latinAt (l : Launch) (Z : State) (a0 : Array Value) (hw : ∀ d ∈ tables_1, d.before a0 Z = true) (ws : List Jvm.Cond) (t1 : Addr) (k1 : ClassId) (bs : List Int32) (i : Nat) (fm : Value) (h0 : Heap) (n0 : Nat) (Z0 : n0 ≤ h0.size) (O0 : Old Z n0 h0) (V1 : Arv Z h0 t1 k1 .byte (Int32.ofNat bs.length) (bs.map Value.int) (.int (0 : Int32))) (lb : bs.length < 2 ^ 31) (hi : i < bs.length) (FM : Sta Z Z.heap "jdk/internal/util/Preconditions" "SIOOBE_FORMATTER" "Ljava/util/function/BiFunction;" fm) (rf : fm.isRef = true) :
    Con l Z (⟨"java/lang/StringLatin1", "charAt", "([BI)C"⟩ : MethodName) jdk_43_method_2_code 2 (some .char) ws rr_latinAt #[(.ref t1), (.int (Int32.ofNat i))] h0 (fun v h L => v = some (.int (((bs.getD i 0) &&& (255 : Int32)).toUInt32.toUInt16.toUInt32.toInt32)) ∧ Fr n0 L ∧ h = h0) := by
  refine Con.enter (plainFor_of_name pn14) ?_
  intro p e s m below meth c s₁ X0 hx hZ hby hml hret hlk hown hnm e0
  have N0 := Fr.nil n0
  refine Go.cast (g' := (mkF m 0 #[.val (.ref t1), .val (.int (Int32.ofNat i))] [])) (by first | rfl | (simp [entryFrame, mkF, argsToLocals, Value.category]; done)) ?_
  refine Go.st (T' := s₁) (g' := (mkF m 1 #[.val (.ref t1), .val (.int (Int32.ofNat i))] [(.int (Int32.ofNat i))])) (fun _ zk => XS.iloadN X0.here hx rfl (hb hby d23_0) rfl zk) ?_
  refine Go.st (T' := s₁) (g' := (mkF m 2 #[.val (.ref t1), .val (.int (Int32.ofNat i))] [(.ref t1), (.int (Int32.ofNat i))])) (fun _ zk => XS.aloadN X0.here hx rfl (hb hby d23_1) rfl rfl zk) ?_
  refine Go.st (T' := s₁) (g' := (mkF m 3 #[.val (.ref t1), .val (.int (Int32.ofNat i))] [(.int (Int32.ofNat bs.length)), (.int (Int32.ofNat i))])) (fun _ zk => lenV X0 hx hZ e0 V1 (g := (mkF m 2 #[.val (.ref t1), .val (.int (Int32.ofNat i))] [(.ref t1), (.int (Int32.ofNat i))])) rfl (rest := [(.int (Int32.ofNat i))]) rfl (hb hby d23_2) zk) ?_
  refine Go.callSt (y := (⟨"java/lang/String", "checkIndex", "(II)V"⟩ : MethodName)) X0 hx hZ hown e0 (w132 hw) (w133 hw) (w7 hw) (w134 hw) (by decide) (argsL := [(.int (Int32.ofNat i)), (.int (Int32.ofNat bs.length))]) (rest := []) (W := 0) (rm_strIdx l Z a0 hw [] (Int32.ofNat i) (Int32.ofNat bs.length) fm h0 n0 Z0 O0 FM rf (own_ofn0 (by omega)) (own_oflt hi lb)) rfl (lenOf pd13 rfl) rfl (by rw [hml]; rfl) rfl (by show 2 * 0 + _ ≤ _; exact Nat.le_of_eq rfl) (by decide) (by decide) (by decide) (by decide) (hb hby d23_3) ?_
  intro v1 T1 h1 L1 X1 e1 q1
  obtain ⟨hv1, Nf1, hh1⟩ := q1
  subst hv1
  have E1 : T1.heap = h0 := e1.trans hh1
  have N1 := Fr.app N0 Nf1
  show Go p.tables e below _ T1 (mkF m 6 #[.val (.ref t1), .val (.int (Int32.ofNat i))] [])
  refine Go.st (T' := T1) (g' := (mkF m 7 #[.val (.ref t1), .val (.int (Int32.ofNat i))] [(.ref t1)])) (fun _ zk => XS.aloadN X1.here hx rfl (hb hby d23_6) rfl rfl zk) ?_
  refine Go.st (T' := T1) (g' := (mkF m 8 #[.val (.ref t1), .val (.int (Int32.ofNat i))] [(.int (Int32.ofNat i)), (.ref t1)])) (fun _ zk => XS.iloadN X1.here hx rfl (hb hby d23_7) rfl zk) ?_
  refine Go.st (T' := T1) (g' := (mkF m 9 #[.val (.ref t1), .val (.int (Int32.ofNat i))] [(.int (bs.getD i 0))])) (fun _ zk => ldBV X1 hx hZ E1 V1 (j := (Int32.ofNat i)) ⟨own_ofn0 (by omega), own_oflt hi lb⟩ (v := (.int (bs.getD i 0))) (by rw [own_clamp (by omega)]; exact own_getD bs i) (g := (mkF m 8 #[.val (.ref t1), .val (.int (Int32.ofNat i))] [(.int (Int32.ofNat i)), (.ref t1)])) rfl (rest := []) rfl (hb hby d23_8) zk) ?_
  refine Go.st (T' := T1) (g' := (mkF m 12 #[.val (.ref t1), .val (.int (Int32.ofNat i))] [(.int (255 : Int32)), (.int (bs.getD i 0))])) (fun _ zk => XS.sipush X1.here hx rfl (hb hby d23_9) zk) ?_
  refine Go.st (T' := T1) (g' := (mkF m 13 #[.val (.ref t1), .val (.int (Int32.ofNat i))] [(.int ((bs.getD i 0) &&& (255 : Int32)))])) (fun _ zk => XS.iand X1.here hx rfl (hb hby d23_12) rfl zk) ?_
  refine Go.st (T' := T1) (g' := (mkF m 14 #[.val (.ref t1), .val (.int (Int32.ofNat i))] [(.int (((bs.getD i 0) &&& (255 : Int32)).toUInt32.toUInt16.toUInt32.toInt32))])) (fun _ zk => XS.i2c X1.here hx rfl (hb hby d23_13) rfl zk) ?_
  refine Go.retN X1 hx hlk hret (congrArg Value.int nar_c) (by simp) (hb hby d23_14) (by decide) (by decide) E1 ?_
  exact ⟨rfl, N1, rfl⟩
theorem d21_0 : decode jdk_42_method_56_code 0 = .ok (.aload_n 0, 1) := by decide +kernel
theorem w127 {a0 : Array Value} {Z : State} (hw : ∀ d ∈ tables_1, d.before a0 Z = true) : ((Jvm.Cond.code ({ cls := "java/lang/String", name := "isLatin1", desc := "()Z" } : Jvm.MethodName) jdk_42_method_154_code (1 : Nat) (Option.some Jvm.ClassFile.FieldType.boolean))).before a0 Z = true := hw _ (List.mem_of_getElem? (i := 127) rfl)
theorem pd15 : parseMethodDescriptor "()Z" = some ⟨[], some .boolean⟩ := by decide +kernel
theorem d21_1 : decode jdk_42_method_56_code 1 = .ok (.invokevirtual 492, 3) := by decide +kernel
theorem w126 {a0 : Array Value} {Z : State} (hw : ∀ d ∈ tables_1, d.before a0 Z = true) : ((Jvm.Cond.selects "java/lang/String" ({ cls := "java/lang/String", name := "isLatin1", desc := "()Z" } : Jvm.MethodName) ({ cls := "java/lang/String", name := "isLatin1", desc := "()Z" } : Jvm.MethodName))).before a0 Z = true := hw _ (List.mem_of_getElem? (i := 126) rfl)
theorem w125 {a0 : Array Value} {Z : State} (hw : ∀ d ∈ tables_1, d.before a0 Z = true) : ((Jvm.Cond.instanceMethod ({ cls := "java/lang/String", name := "isLatin1", desc := "()Z" } : Jvm.MethodName))).before a0 Z = true := hw _ (List.mem_of_getElem? (i := 125) rfl)
theorem w123 {a0 : Array Value} {Z : State} (hw : ∀ d ∈ tables_1, d.before a0 Z = true) : ((Jvm.Cond.methodLink "java/lang/String" (492 : Nat) ({ cls := "java/lang/String", name := "isLatin1", desc := "()Z" } : Jvm.MethodName))).before a0 Z = true := hw _ (List.mem_of_getElem? (i := 123) rfl)
theorem w124 {a0 : Array Value} {Z : State} (hw : ∀ d ∈ tables_1, d.before a0 Z = true) : ((Jvm.Cond.declares ({ cls := "java/lang/String", name := "isLatin1", desc := "()Z" } : Jvm.MethodName))).before a0 Z = true := hw _ (List.mem_of_getElem? (i := 124) rfl)
theorem d21_4 : decode jdk_42_method_56_code 4 = .ok (.ifCond .eq 12, 3) := by decide +kernel
theorem d21_7 : decode jdk_42_method_56_code 7 = .ok (.aload_n 0, 1) := by decide +kernel
theorem d21_8 : decode jdk_42_method_56_code 8 = .ok (.getfield 9, 3) := by decide +kernel
theorem d21_11 : decode jdk_42_method_56_code 11 = .ok (.iload_n 1, 1) := by decide +kernel
theorem w131 {a0 : Array Value} {Z : State} (hw : ∀ d ∈ tables_1, d.before a0 Z = true) : ((Jvm.Cond.code ({ cls := "java/lang/StringLatin1", name := "charAt", desc := "([BI)C" } : Jvm.MethodName) jdk_43_method_2_code (2 : Nat) (Option.some Jvm.ClassFile.FieldType.char))).before a0 Z = true := hw _ (List.mem_of_getElem? (i := 131) rfl)
theorem w130 {a0 : Array Value} {Z : State} (hw : ∀ d ∈ tables_1, d.before a0 Z = true) : ((Jvm.Cond.initialized "java/lang/StringLatin1")).before a0 Z = true := hw _ (List.mem_of_getElem? (i := 130) rfl)
theorem d21_12 : decode jdk_42_method_56_code 12 = .ok (.invokestatic 495, 3) := by decide +kernel
theorem w128 {a0 : Array Value} {Z : State} (hw : ∀ d ∈ tables_1, d.before a0 Z = true) : ((Jvm.Cond.methodLink "java/lang/String" (495 : Nat) ({ cls := "java/lang/StringLatin1", name := "charAt", desc := "([BI)C" } : Jvm.MethodName))).before a0 Z = true := hw _ (List.mem_of_getElem? (i := 128) rfl)
theorem w129 {a0 : Array Value} {Z : State} (hw : ∀ d ∈ tables_1, d.before a0 Z = true) : ((Jvm.Cond.static ({ cls := "java/lang/StringLatin1", name := "charAt", desc := "([BI)C" } : Jvm.MethodName))).before a0 Z = true := hw _ (List.mem_of_getElem? (i := 129) rfl)
theorem d21_15 : decode jdk_42_method_56_code 15 = .ok (.ireturn, 1) := by decide +kernel
def rr_charAtG : Room := { frames := 3, cells := 0, slots := 0, locals := 40 }
set_option maxRecDepth 65536 in
set_option maxHeartbeats 40000000 in
theorem rm_charAtG (l : Launch) (Z : State) (a0 : Array Value) (hw : ∀ d ∈ tables_1, d.before a0 Z = true) (ws : List Jvm.Cond) (a1 : Addr) (bs : List Int32) (i : Nat) (zc : Int32) (fm : Value) (h0 : Heap) (n0 : Nat) (Z0 : n0 ≤ h0.size) (O0 : Old Z n0 h0) (S1 : StrB Z h0 a1 0 bs) (lb : bs.length < 2 ^ 31) (hi : i < bs.length) (CS : Sta Z Z.heap "java/lang/String" "COMPACT_STRINGS" "Z" (.int zc)) (hz : ¬ zc = 0) (FM : Sta Z Z.heap "jdk/internal/util/Preconditions" "SIOOBE_FORMATTER" "Ljava/util/function/BiFunction;" fm) (rf : fm.isRef = true) :
    Con l Z (⟨"java/lang/String", "charAt", "(I)C"⟩ : MethodName) jdk_42_method_56_code 2 (some .char) ws rr_charAtG #[(.ref a1), (.int (Int32.ofNat i))] h0 (fun v h L => v = some (.int (((bs.getD i 0) &&& (255 : Int32)).toUInt32.toUInt16.toUInt32.toInt32)) ∧ Fr n0 L ∧ h = h0) := by
  refine Con.enter (plainFor_of_name pn8) ?_
  intro p e s m below meth c s₁ X0 hx hZ hby hml hret hlk hown hnm e0
  have N0 := Fr.nil n0
  refine Go.cast (g' := (mkF m 0 #[.val (.ref a1), .val (.int (Int32.ofNat i))] [])) (by first | rfl | (simp [entryFrame, mkF, argsToLocals, Value.category]; done)) ?_
  obtain ⟨t1, k1, E_a1, C_a1, F_a1, V_a1⟩ := S1
  refine Go.st (T' := s₁) (g' := (mkF m 1 #[.val (.ref a1), .val (.int (Int32.ofNat i))] [(.ref a1)])) (fun _ zk => XS.aloadN X0.here hx rfl (hb hby d21_0) rfl rfl zk) ?_
  refine Go.callV (y := (⟨"java/lang/String", "isLatin1", "()Z"⟩ : MethodName)) (z := (⟨"java/lang/String", "isLatin1", "()Z"⟩ : MethodName)) (C := "java/lang/String") (a := a1) X0 hx hZ hown e0 (w123 hw) (w124 hw) (w126 hw) (w125 hw) (w7 hw) (w127 hw) (notFace_of_selects (args := #[]) (mvT hZ (w126 hw))) (by decide) E_a1 (argsL := []) (rest := []) (W := 0) (rm_isLatin1G l Z a0 hw [] a1 zc h0 n0 Z0 O0 C_a1 CS hz) rfl (lenOf pd15 rfl) rfl (by rw [hml]; rfl) rfl (by show 2 * 0 + _ ≤ _; exact Nat.le_of_eq rfl) (by decide) (by decide) (by decide) (by decide) (hb hby d21_1) ?_
  intro v1 T1 h1 L1 X1 e1 q1
  obtain ⟨hv1, Nf1, hh1⟩ := q1
  subst hv1
  have E1 : T1.heap = h0 := e1.trans hh1
  have N1 := Fr.app N0 Nf1
  show Go p.tables e below _ T1 (mkF m 4 #[.val (.ref a1), .val (.int (Int32.ofNat i))] [(.int (1 : Int32))])
  refine Go.st (T' := T1) (g' := (mkF m 7 #[.val (.ref a1), .val (.int (Int32.ofNat i))] [])) (fun _ zk => XS.ifNo X1.here hx rfl (hb hby d21_4) rfl ((if0 _ _).trans (feq ((by decide) : ¬ ((1 : Int32) = (0 : Int32)))).1) zk) ?_
  refine Go.st (T' := T1) (g' := (mkF m 8 #[.val (.ref a1), .val (.int (Int32.ofNat i))] [(.ref a1)])) (fun _ zk => XS.aloadN X1.here hx rfl (hb hby d21_7) rfl rfl zk) ?_
  obtain ⟨T2, X2, e2, st2⟩ := getF X1 hx hZ hown (host := "") (Or.inl (w25 hw)) Via.refl E1 F_a1 (g := (mkF m 8 #[.val (.ref a1), .val (.int (Int32.ofNat i))] [(.ref a1)])) rfl rfl (hb hby d21_8)
  refine Go.st (T' := T2) (g' := (mkF m 11 #[.val (.ref a1), .val (.int (Int32.ofNat i))] [(.ref t1)])) (fun _ zk => st2 _ zk) ?_
  refine Go.st (T' := T2) (g' := (mkF m 12 #[.val (.ref a1), .val (.int (Int32.ofNat i))] [(.int (Int32.ofNat i)), (.ref t1)])) (fun _ zk => XS.iloadN X2.here hx rfl (hb hby d21_11) rfl zk) ?_
  refine Go.callSt (y := (⟨"java/lang/StringLatin1", "charAt", "([BI)C"⟩ : MethodName)) X2 hx hZ hown e2 (w128 hw) (w129 hw) (w130 hw) (w131 hw) (by decide) (argsL := [(.ref t1), (.int (Int32.ofNat i))]) (rest := []) (W := 0) (rm_latinAt l Z a0 hw [] t1 k1 bs i fm h0 n0 Z0 O0 V_a1 lb hi FM rf) rfl (lenOf pd6 rfl) rfl (by rw [hml]; rfl) rfl (by show 2 * 0 + _ ≤ _; exact Nat.le_of_eq rfl) (by decide) (by decide) (by decide) (by decide) (hb hby d21_12) ?_
  intro v3 T3 h3 L3 X3 e3 q3
  obtain ⟨hv3, Nf3, hh3⟩ := q3
  subst hv3
  have E3 : T3.heap = h0 := e3.trans hh3
  have N3 := Fr.app N1 Nf3
  show Go p.tables e below _ T3 (mkF m 15 #[.val (.ref a1), .val (.int (Int32.ofNat i))] [(.int (((bs.getD i 0) &&& (255 : Int32)).toUInt32.toUInt16.toUInt32.toInt32))])
  refine Go.retN X3 hx hlk hret (congrArg Value.int nar_c) (by simp) (hb hby d21_15) (by decide) (by decide) E3 ?_
  exact ⟨rfl, N3, rfl⟩
theorem d22_17 : decode jdk_42_method_154_code 17 = .ok (.iconst 0, 1) := by decide +kernel
def rr_isLatinU : Room := { frames := 0, cells := 0, slots := 0, locals := 0 }
set_option maxRecDepth 65536 in
set_option maxHeartbeats 40000000 in
theorem rm_isLatinU (l : Launch) (Z : State) (a0 : Array Value) (hw : ∀ d ∈ tables_1, d.before a0 Z = true) (ws : List Jvm.Cond) (a1 : Addr) (zc : Int32) (h0 : Heap) (n0 : Nat) (Z0 : n0 ≤ h0.size) (O0 : Old Z n0 h0) (F0 : Fld Z h0 a1 "java/lang/String" "coder" "B" (.int (1 : Int32))) (CS : Sta Z Z.heap "java/lang/String" "COMPACT_STRINGS" "Z" (.int zc)) (hz : ¬ zc = 0) :
    Con l Z (⟨"java/lang/String", "isLatin1", "()Z"⟩ : MethodName) jdk_42_method_154_code 1 (some .boolean) ws rr_isLatinU #[(.ref a1)] h0 (fun v h L => v = some (.int 0) ∧ Fr n0 L ∧ h = h0) := by
  refine Con.enter (plainFor_of_name pn8) ?_
  intro p e s m below meth c s₁ X0 hx hZ hby hml hret hlk hown hnm e0
  have N0 := Fr.nil n0
  refine Go.cast (g' := (mkF m 0 #[.val (.ref a1)] [])) (by first | rfl | (simp [entryFrame, mkF, argsToLocals, Value.category]; done)) ?_
  obtain ⟨T1, X1, e1, st1⟩ := getS2 X0 hx hZ hown (host := "") (Or.inl (w101 hw)) Via.refl e0 (CS.ext O0.2) (g := (mkF m 0 #[.val (.ref a1)] [])) rfl (hb hby d22_0)
  refine Go.st (T' := T1) (g' := (mkF m 3 #[.val (.ref a1)] [(.int zc)])) (fun _ zk => st1 _ zk) ?_
  refine Go.st (T' := T1) (g' := (mkF m 6 #[.val (.ref a1)] [])) (fun _ zk => XS.ifNo X1.here hx rfl (hb hby d22_3) rfl ((if0 _ _).trans (feq (hz : ¬ (zc = (0 : Int32)))).1) zk) ?_
  refine Go.st (T' := T1) (g' := (mkF m 7 #[.val (.ref a1)] [(.ref a1)])) (fun _ zk => XS.aloadN X1.here hx rfl (hb hby d22_6) rfl rfl zk) ?_
  obtain ⟨T2, X2, e2, st2⟩ := getF X1 hx hZ hown (host := "") (Or.inl (w26 hw)) Via.refl e1 F0 (g := (mkF m 7 #[.val (.ref a1)] [(.ref a1)])) rfl rfl (hb hby d22_7)
  refine Go.st (T' := T2) (g' := (mkF m 10 #[.val (.ref a1)] [(.int (1 : Int32))])) (fun _ zk => st2 _ zk) ?_
  refine Go.st (T' := T2) (g' := (mkF m 17 #[.val (.ref a1)] [])) (fun _ zk => XS.ifYes X2.here hx rfl (pc0 := 10) (pc' := 17) rfl (hb hby d22_10) rfl ((if0 _ _).trans (feq ((by decide) : ¬ ((1 : Int32) = (0 : Int32)))).2) (by decide) (by decide) zk) ?_
  refine Go.st (T' := T2) (g' := (mkF m 18 #[.val (.ref a1)] [(.int (0 : Int32))])) (fun _ zk => XS.iconst X2.here hx rfl (hb hby d22_17) zk) ?_
  refine Go.retN X2 hx hlk hret rfl (by simp) (hb hby d22_18) (by decide) (by decide) e2 ?_
  exact ⟨rfl, N0, rfl⟩
theorem d33_0 : decode jdk_52_method_6_code 0 = .ok (.aload_n 0, 1) := by decide +kernel
theorem d33_1 : decode jdk_52_method_6_code 1 = .ok (.arraylength, 1) := by decide +kernel
theorem d33_2 : decode jdk_52_method_6_code 2 = .ok (.iconst 1, 1) := by decide +kernel
theorem d33_3 : decode jdk_52_method_6_code 3 = .ok (.ishr, 1) := by decide +kernel
theorem d33_4 : decode jdk_52_method_6_code 4 = .ok (.ireturn, 1) := by decide +kernel
def rr_ulenW : Room := { frames := 0, cells := 0, slots := 0, locals := 0 }
set_option maxRecDepth 65536 in
set_option maxHeartbeats 40000000 in
theorem rm_ulenW (l : Launch) (Z : State) (a0 : Array Value) (hw : ∀ d ∈ tables_1, d.before a0 Z = true) (ws : List Jvm.Cond) (t : Addr) (k : ClassId) (xs : List Int32) (n : Nat) (h0 : Heap) (n0 : Nat) (Z0 : n0 ≤ h0.size) (V1 : Arv Z h0 t k .byte (Int32.ofNat (2 * n)) (xs.map Value.int) (.int (0 : Int32))) (hx0 : xs.length = 2 * n) (hn : n < 2 ^ 30) :
    Con l Z (⟨"java/lang/StringUTF16", "length", "([B)I"⟩ : MethodName) jdk_52_method_6_code 1 (some .int) ws rr_ulenW #[(.ref t)] h0 (fun v h L => v = some (.int (Int32.ofNat n)) ∧ Fr n0 L ∧ h = h0) := by
  refine Con.enter (plainFor_of_name pn0) ?_
  intro p e s m below meth c s₁ X0 hx hZ hby hml hret hlk hown hnm e0
  have N0 := Fr.nil n0
  refine Go.cast (g' := (mkF m 0 #[.val (.ref t)] [])) (by first | rfl | (simp [entryFrame, mkF, argsToLocals, Value.category]; done)) ?_
  refine Go.st (T' := s₁) (g' := (mkF m 1 #[.val (.ref t)] [(.ref t)])) (fun _ zk => XS.aloadN X0.here hx rfl (hb hby d33_0) rfl rfl zk) ?_
  refine Go.st (T' := s₁) (g' := (mkF m 2 #[.val (.ref t)] [(.int (Int32.ofNat (2 * n)))])) (fun _ zk => lenV X0 hx hZ e0 V1 (g := (mkF m 1 #[.val (.ref t)] [(.ref t)])) rfl (rest := []) rfl (hb hby d33_1) zk) ?_
  refine Go.st (T' := s₁) (g' := (mkF m 3 #[.val (.ref t)] [(.int (1 : Int32)), (.int (Int32.ofNat (2 * n)))])) (fun _ zk => XS.iconst X0.here hx rfl (hb hby d33_2) zk) ?_
  refine Go.st (T' := s₁) (g' := (mkF m 4 #[.val (.ref t)] [(.int ((Int32.ofNat (2 * n)) >>> ((1 : Int32) &&& 31)))])) (fun _ zk => XS.ishr X0.here hx rfl (hb hby d33_3) rfl zk) ?_
  rw [own_shr1 hn]
  refine Go.retN X0 hx hlk hret rfl (by simp) (hb hby d33_4) (by decide) (by decide) e0 ?_
  exact ⟨rfl, N0, rfl⟩
theorem d32_0 : decode jdk_52_method_91_code 0 = .ok (.iload_n 0, 1) := by decide +kernel
theorem d32_1 : decode jdk_52_method_91_code 1 = .ok (.aload_n 1, 1) := by decide +kernel
theorem w167 {a0 : Array Value} {Z : State} (hw : ∀ d ∈ tables_1, d.before a0 Z = true) : ((Jvm.Cond.code ({ cls := "java/lang/StringUTF16", name := "length", desc := "([B)I" } : Jvm.MethodName) jdk_52_method_6_code (1 : Nat) (Option.some Jvm.ClassFile.FieldType.int))).before a0 Z = true := hw _ (List.mem_of_getElem? (i := 167) rfl)
theorem pd16 : parseMethodDescriptor "([B)I" = some ⟨[(.array .byte)], some .int⟩ := by decide +kernel
theorem d32_2 : decode jdk_52_method_91_code 2 = .ok (.invokestatic 48, 3) := by decide +kernel
theorem w165 {a0 : Array Value} {Z : State} (hw : ∀ d ∈ tables_1, d.before a0 Z = true) : ((Jvm.Cond.methodLink "java/lang/StringUTF16" (48 : Nat) ({ cls := "java/lang/StringUTF16", name := "length", desc := "([B)I" } : Jvm.MethodName))).before a0 Z = true := hw _ (List.mem_of_getElem? (i := 165) rfl)
theorem w166 {a0 : Array Value} {Z : State} (hw : ∀ d ∈ tables_1, d.before a0 Z = true) : ((Jvm.Cond.static ({ cls := "java/lang/StringUTF16", name := "length", desc := "([B)I" } : Jvm.MethodName))).before a0 Z = true := hw _ (List.mem_of_getElem? (i := 166) rfl)
theorem d32_5 : decode jdk_52_method_91_code 5 = .ok (.invokestatic 414, 3) := by decide +kernel
theorem w168 {a0 : Array Value} {Z : State} (hw : ∀ d ∈ tables_1, d.before a0 Z = true) : ((Jvm.Cond.methodLink "java/lang/StringUTF16" (414 : Nat) ({ cls := "java/lang/String", name := "checkIndex", desc := "(II)V" } : Jvm.MethodName))).before a0 Z = true := hw _ (List.mem_of_getElem? (i := 168) rfl)
theorem d32_8 : decode jdk_52_method_91_code 8 = .ok (.return_, 1) := by decide +kernel
def rr_uciW : Room := { frames := 2, cells := 0, slots := 0, locals := 27 }
set_option maxRecDepth 65536 in
set_option maxHeartbeats 40000000 in
theorem rm_uciW (l : Launch) (Z : State) (a0 : Array Value) (hw : ∀ d ∈ tables_1, d.before a0 Z = true) (ws : List Jvm.Cond) (t : Addr) (k : ClassId) (xs : List Int32) (n : Nat) (i : Nat) (fm : Value) (h0 : Heap) (n0 : Nat) (Z0 : n0 ≤ h0.size) (O0 : Old Z n0 h0) (V1 : Arv Z h0 t k .byte (Int32.ofNat (2 * n)) (xs.map Value.int) (.int (0 : Int32))) (hx0 : xs.length = 2 * n) (hn : n < 2 ^ 30) (hi : i < n) (FM : Sta Z Z.heap "jdk/internal/util/Preconditions" "SIOOBE_FORMATTER" "Ljava/util/function/BiFunction;" fm) (rf : fm.isRef = true) :
    Con l Z (⟨"java/lang/StringUTF16", "checkIndex", "(I[B)V"⟩ : MethodName) jdk_52_method_91_code 2 none ws rr_uciW #[(.int (Int32.ofNat i)), (.ref t)] h0 (fun v h L => v = none ∧ Fr n0 L ∧ h = h0) := by
  refine Con.enter (plainFor_of_name pn0) ?_
  intro p e s m below meth c s₁ X0 hx hZ hby hml hret hlk hown hnm e0
  have N0 := Fr.nil n0
  refine Go.cast (g' := (mkF m 0 #[.val (.int (Int32.ofNat i)), .val (.ref t)] [])) (by first | rfl | (simp [entryFrame, mkF, argsToLocals, Value.category]; done)) ?_
  refine Go.st (T' := s₁) (g' := (mkF m 1 #[.val (.int (Int32.ofNat i)), .val (.ref t)] [(.int (Int32.ofNat i))])) (fun _ zk => XS.iloadN X0.here hx rfl (hb hby d32_0) rfl zk) ?_
  refine Go.st (T' := s₁) (g' := (mkF m 2 #[.val (.int (Int32.ofNat i)), .val (.ref t)] [(.ref t), (.int (Int32.ofNat i))])) (fun _ zk => XS.aloadN X0.here hx rfl (hb hby d32_1) rfl rfl zk) ?_
  refine Go.callSt (y := (⟨"java/lang/StringUTF16", "length", "([B)I"⟩ : MethodName)) X0 hx hZ hown e0 (w165 hw) (w166 hw) (w110 hw) (w167 hw) (by decide) (argsL := [(.ref t)]) (rest := [(.int (Int32.ofNat i))]) (W := 1) (rm_ulenW l Z a0 hw [] t k xs n h0 n0 Z0 V1 hx0 hn) rfl (lenOf pd16 rfl) rfl (by rw [hml]; rfl) rfl (by show 2 * 0 + _ ≤ _; exact Nat.le_of_eq rfl) (by decide) (by decide) (by decide) (by decide) (hb hby d32_2) ?_
  intro v1 T1 h1 L1 X1 e1 q1
  obtain ⟨hv1, Nf1, hh1⟩ := q1
  subst hv1
  have E1 : T1.heap = h0 := e1.trans hh1
  have N1 := Fr.app N0 Nf1
  show Go p.tables e below _ T1 (mkF m 5 #[.val (.int (Int32.ofNat i)), .val (.ref t)] [(.int (Int32.ofNat n)), (.int (Int32.ofNat i))])
  refine Go.callSt (y := (⟨"java/lang/String", "checkIndex", "(II)V"⟩ : MethodName)) X1 hx hZ hown E1 (w168 hw) (w133 hw) (w7 hw) (w134 hw) (by decide) (argsL := [(.int (Int32.ofNat i)), (.int (Int32.ofNat n))]) (rest := []) (W := 0) (rm_strIdx l Z a0 hw [] (Int32.ofNat i) (Int32.ofNat n) fm h0 n0 Z0 O0 FM rf (own_ofn0 (by omega)) (own_oflt hi (by omega))) rfl (lenOf pd13 rfl) rfl (by rw [hml]; rfl) rfl (by show 2 * 0 + _ ≤ _; exact Nat.le_of_eq rfl) (by decide) (by decide) (by decide) (by decide) (hb hby d32_5) ?_
  intro v2 T2 h2 L2 X2 e2 q2
  obtain ⟨hv2, Nf2, hh2⟩ := q2
  subst hv2
  have E2 : T2.heap = h0 := e2.trans hh2
  have N2 := Fr.app N1 Nf2
  show Go p.tables e below _ T2 (mkF m 8 #[.val (.int (Int32.ofNat i)), .val (.ref t)] [])
  refine Go.retV X2 hx hlk hret (hb hby d32_8) (by decide) (by decide) E2 ?_
  exact ⟨rfl, N2, rfl⟩
theorem d31_0 : decode jdk_52_method_83_code 0 = .ok (.iload_n 1, 1) := by decide +kernel
theorem d31_1 : decode jdk_52_method_83_code 1 = .ok (.aload_n 0, 1) := by decide +kernel
theorem w164 {a0 : Array Value} {Z : State} (hw : ∀ d ∈ tables_1, d.before a0 Z = true) : ((Jvm.Cond.code ({ cls := "java/lang/StringUTF16", name := "checkIndex", desc := "(I[B)V" } : Jvm.MethodName) jdk_52_method_91_code (2 : Nat) (Option.none : Option Jvm.ClassFile.FieldType))).before a0 Z = true := hw _ (List.mem_of_getElem? (i := 164) rfl)
theorem pd17 : parseMethodDescriptor "(I[B)V" = some ⟨[.int, (.array .byte)], none⟩ := by decide +kernel
theorem d31_2 : decode jdk_52_method_83_code 2 = .ok (.invokestatic 67, 3) := by decide +kernel
theorem w162 {a0 : Array Value} {Z : State} (hw : ∀ d ∈ tables_1, d.before a0 Z = true) : ((Jvm.Cond.methodLink "java/lang/StringUTF16" (67 : Nat) ({ cls := "java/lang/StringUTF16", name := "checkIndex", desc := "(I[B)V" } : Jvm.MethodName))).before a0 Z = true := hw _ (List.mem_of_getElem? (i := 162) rfl)
theorem w163 {a0 : Array Value} {Z : State} (hw : ∀ d ∈ tables_1, d.before a0 Z = true) : ((Jvm.Cond.static ({ cls := "java/lang/StringUTF16", name := "checkIndex", desc := "(I[B)V" } : Jvm.MethodName))).before a0 Z = true := hw _ (List.mem_of_getElem? (i := 163) rfl)
theorem d31_5 : decode jdk_52_method_83_code 5 = .ok (.aload_n 0, 1) := by decide +kernel
theorem d31_6 : decode jdk_52_method_83_code 6 = .ok (.iload_n 1, 1) := by decide +kernel
theorem d31_7 : decode jdk_52_method_83_code 7 = .ok (.invokestatic 71, 3) := by decide +kernel
theorem d31_10 : decode jdk_52_method_83_code 10 = .ok (.ireturn, 1) := by decide +kernel
def rr_uatW : Room := { frames := 3, cells := 0, slots := 0, locals := 40 }
set_option maxRecDepth 65536 in
set_option maxHeartbeats 40000000 in
theorem rm_uatW (l : Launch) (Z : State) (a0 : Array Value) (hw : ∀ d ∈ tables_1, d.before a0 Z = true) (ws : List Jvm.Cond) (t : Addr) (k : ClassId) (xs : List Int32) (n : Nat) (i : Nat) (fm : Value) (h0 : Heap) (n0 : Nat) (Z0 : n0 ≤ h0.size) (O0 : Old Z n0 h0) (V1 : Arv Z h0 t k .byte (Int32.ofNat (2 * n)) (xs.map Value.int) (.int (0 : Int32))) (hx0 : xs.length = 2 * n) (hn : n < 2 ^ 30) (hi : i < n) (FM : Sta Z Z.heap "jdk/internal/util/Preconditions" "SIOOBE_FORMATTER" "Ljava/util/function/BiFunction;" fm) (rf : fm.isRef = true) (UA : Sta Z Z.heap "java/lang/StringUTF16" "$assertionsDisabled" "Z" (.int (1 : Int32))) (UH : Sta Z Z.heap "java/lang/StringUTF16" "HI_BYTE_SHIFT" "I" (.int (0 : Int32))) (UL : Sta Z Z.heap "java/lang/StringUTF16" "LO_BYTE_SHIFT" "I" (.int (8 : Int32))) :
    Con l Z (⟨"java/lang/StringUTF16", "charAt", "([BI)C"⟩ : MethodName) jdk_52_method_83_code 2 (some .char) ws rr_uatW #[(.ref t), (.int (Int32.ofNat i))] h0 (fun v h L => v = some (.int (((((xs.getD (2 * i) 0) &&& (255 : Int32)) <<< ((0 : Int32) &&& 31)) ||| (((xs.getD (2 * i + 1) 0) &&& (255 : Int32)) <<< ((8 : Int32) &&& 31))).toUInt32.toUInt16.toUInt32.toInt32)) ∧ Fr n0 L ∧ h = h0) := by
  refine Con.enter (plainFor_of_name pn0) ?_
  intro p e s m below meth c s₁ X0 hx hZ hby hml hret hlk hown hnm e0
  have N0 := Fr.nil n0
  refine Go.cast (g' := (mkF m 0 #[.val (.ref t), .val (.int (Int32.ofNat i))] [])) (by first | rfl | (simp [entryFrame, mkF, argsToLocals, Value.category]; done)) ?_
  refine Go.st (T' := s₁) (g' := (mkF m 1 #[.val (.ref t), .val (.int (Int32.ofNat i))] [(.int (Int32.ofNat i))])) (fun _ zk => XS.iloadN X0.here hx rfl (hb hby d31_0) rfl zk) ?_
  refine Go.st (T' := s₁) (g' := (mkF m 2 #[.val (.ref t), .val (.int (Int32.ofNat i))] [(.ref t), (.int (Int32.ofNat i))])) (fun _ zk => XS.aloadN X0.here hx rfl (hb hby d31_1) rfl rfl zk) ?_
  refine Go.callSt (y := (⟨"java/lang/StringUTF16", "checkIndex", "(I[B)V"⟩ : MethodName)) X0 hx hZ hown e0 (w162 hw) (w163 hw) (w110 hw) (w164 hw) (by decide) (argsL := [(.int (Int32.ofNat i)), (.ref t)]) (rest := []) (W := 0) (rm_uciW l Z a0 hw [] t k xs n i fm h0 n0 Z0 O0 V1 hx0 hn hi FM rf) rfl (lenOf pd17 rfl) rfl (by rw [hml]; rfl) rfl (by show 2 * 0 + _ ≤ _; exact Nat.le_of_eq rfl) (by decide) (by decide) (by decide) (by decide) (hb hby d31_2) ?_
  intro v1 T1 h1 L1 X1 e1 q1
  obtain ⟨hv1, Nf1, hh1⟩ := q1
  subst hv1
  have E1 : T1.heap = h0 := e1.trans hh1
  have N1 := Fr.app N0 Nf1
  show Go p.tables e below _ T1 (mkF m 5 #[.val (.ref t), .val (.int (Int32.ofNat i))] [])
  refine Go.st (T' := T1) (g' := (mkF m 6 #[.val (.ref t), .val (.int (Int32.ofNat i))] [(.ref t)])) (fun _ zk => XS.aloadN X1.here hx rfl (hb hby d31_5) rfl rfl zk) ?_
  refine Go.st (T' := T1) (g' := (mkF m 7 #[.val (.ref t), .val (.int (Int32.ofNat i))] [(.int (Int32.ofNat i)), (.ref t)])) (fun _ zk => XS.iloadN X1.here hx rfl (hb hby d31_6) rfl zk) ?_
  refine Go.callSt (y := (⟨"java/lang/StringUTF16", "getChar", "([BI)C"⟩ : MethodName)) X1 hx hZ hown E1 (w156 hw) (w157 hw) (w110 hw) (w158 hw) (by decide) (argsL := [(.ref t), (.int (Int32.ofNat i))]) (rest := []) (W := 0) (rm_getW l Z a0 hw [] t k xs (2 * n) i h0 n0 Z0 O0 V1 hx0 (by omega) (by omega) UA UH UL) rfl (lenOf pd6 rfl) rfl (by rw [hml]; rfl) rfl (by show 2 * 0 + _ ≤ _; exact Nat.le_of_eq rfl) (by decide) (by decide) (by decide) (by decide) (hb hby d31_7) ?_
  intro v2 T2 h2 L2 X2 e2 q2
  obtain ⟨hv2, Nf2, hh2⟩ := q2
  subst hv2
  have E2 : T2.heap = h0 := e2.trans hh2
  have N2 := Fr.app N1 Nf2
  show Go p.tables e below _ T2 (mkF m 10 #[.val (.ref t), .val (.int (Int32.ofNat i))] [(.int (((((xs.getD (2 * i) 0) &&& (255 : Int32)) <<< ((0 : Int32) &&& 31)) ||| (((xs.getD (2 * i + 1) 0) &&& (255 : Int32)) <<< ((8 : Int32) &&& 31))).toUInt32.toUInt16.toUInt32.toInt32))])
  refine Go.retN X2 hx hlk hret (congrArg Value.int nar_c) (by simp) (hb hby d31_10) (by decide) (by decide) E2 ?_
  exact ⟨rfl, N2, rfl⟩
theorem d21_16 : decode jdk_42_method_56_code 16 = .ok (.aload_n 0, 1) := by decide +kernel
theorem d21_17 : decode jdk_42_method_56_code 17 = .ok (.getfield 9, 3) := by decide +kernel
theorem d21_20 : decode jdk_42_method_56_code 20 = .ok (.iload_n 1, 1) := by decide +kernel
theorem w161 {a0 : Array Value} {Z : State} (hw : ∀ d ∈ tables_1, d.before a0 Z = true) : ((Jvm.Cond.code ({ cls := "java/lang/StringUTF16", name := "charAt", desc := "([BI)C" } : Jvm.MethodName) jdk_52_method_83_code (2 : Nat) (Option.some Jvm.ClassFile.FieldType.char))).before a0 Z = true := hw _ (List.mem_of_getElem? (i := 161) rfl)
theorem d21_21 : decode jdk_42_method_56_code 21 = .ok (.invokestatic 498, 3) := by decide +kernel
theorem w159 {a0 : Array Value} {Z : State} (hw : ∀ d ∈ tables_1, d.before a0 Z = true) : ((Jvm.Cond.methodLink "java/lang/String" (498 : Nat) ({ cls := "java/lang/StringUTF16", name := "charAt", desc := "([BI)C" } : Jvm.MethodName))).before a0 Z = true := hw _ (List.mem_of_getElem? (i := 159) rfl)
theorem w160 {a0 : Array Value} {Z : State} (hw : ∀ d ∈ tables_1, d.before a0 Z = true) : ((Jvm.Cond.static ({ cls := "java/lang/StringUTF16", name := "charAt", desc := "([BI)C" } : Jvm.MethodName))).before a0 Z = true := hw _ (List.mem_of_getElem? (i := 160) rfl)
theorem d21_24 : decode jdk_42_method_56_code 24 = .ok (.ireturn, 1) := by decide +kernel
def rr_charAtW : Room := { frames := 4, cells := 0, slots := 0, locals := 53 }
set_option maxRecDepth 65536 in
set_option maxHeartbeats 40000000 in
theorem rm_charAtW (l : Launch) (Z : State) (a0 : Array Value) (hw : ∀ d ∈ tables_1, d.before a0 Z = true) (ws : List Jvm.Cond) (a1 : Addr) (cs : List Int32) (n i : Nat) (zc : Int32) (fm : Value) (h0 : Heap) (n0 : Nat) (Z0 : n0 ≤ h0.size) (O0 : Old Z n0 h0) (SC : StrC Z h0 a1 n cs) (hcs : cs.length = n) (hn : n < 2 ^ 30) (hr : ∀ c ∈ cs, 0 ≤ c.toInt ∧ c.toInt < 65536) (hi : i < n) (CS : Sta Z Z.heap "java/lang/String" "COMPACT_STRINGS" "Z" (.int zc)) (hz : ¬ zc = 0) (FM : Sta Z Z.heap "jdk/internal/util/Preconditions" "SIOOBE_FORMATTER" "Ljava/util/function/BiFunction;" fm) (rf : fm.isRef = true) (UA : Sta Z Z.heap "java/lang/StringUTF16" "$assertionsDisabled" "Z" (.int (1 : Int32))) (UH : Sta Z Z.heap "java/lang/StringUTF16" "HI_BYTE_SHIFT" "I" (.int (0 : Int32))) (UL : Sta Z Z.heap "java/lang/StringUTF16" "LO_BYTE_SHIFT" "I" (.int (8 : Int32))) :
    Con l Z (⟨"java/lang/String", "charAt", "(I)C"⟩ : MethodName) jdk_42_method_56_code 2 (some .char) ws rr_charAtW #[(.ref a1), (.int (Int32.ofNat i))] h0 (fun v h L => v = some (.int (cs.getD i 0)) ∧ Fr n0 L ∧ h = h0) := by
  refine Con.enter (plainFor_of_name pn8) ?_
  intro p e s m below meth c s₁ X0 hx hZ hby hml hret hlk hown hnm e0
  have N0 := Fr.nil n0
  refine Go.cast (g' := (mkF m 0 #[.val (.ref a1), .val (.int (Int32.ofNat i))] [])) (by first | rfl | (simp [entryFrame, mkF, argsToLocals, Value.category]; done)) ?_
  obtain ⟨cd, xs, He, S1⟩ := SC
  have hrg := own_rg hr hcs hi
  rcases He with ⟨rfl, hl, hle, hx0⟩ | ⟨rfl, hl, -, hx0⟩
  · obtain ⟨t1, k1, E_a1, C_a1, F_a1, V_a1⟩ := S1
    refine Go.st (T' := s₁) (g' := (mkF m 1 #[.val (.ref a1), .val (.int (Int32.ofNat i))] [(.ref a1)])) (fun _ zk => XS.aloadN X0.here hx rfl (hb hby d21_0) rfl rfl zk) ?_
    refine Go.callV (y := (⟨"java/lang/String", "isLatin1", "()Z"⟩ : MethodName)) (z := (⟨"java/lang/String", "isLatin1", "()Z"⟩ : MethodName)) (C := "java/lang/String") (a := a1) X0 hx hZ hown e0 (w123 hw) (w124 hw) (w126 hw) (w125 hw) (w7 hw) (w127 hw) (notFace_of_selects (args := #[]) (mvT hZ (w126 hw))) (by decide) E_a1 (argsL := []) (rest := []) (W := 0) (rm_isLatin1G l Z a0 hw [] a1 zc h0 n0 Z0 O0 C_a1 CS hz) rfl (lenOf pd15 rfl) rfl (by rw [hml]; rfl) rfl (by show 2 * 0 + _ ≤ _; exact Nat.le_of_eq rfl) (by decide) (by decide) (by decide) (by decide) (hb hby d21_1) ?_
    intro v1 T1 h1 L1 X1 e1 q1
    obtain ⟨hv1, Nf1, hh1⟩ := q1
    subst hv1
    have E1 : T1.heap = h0 := e1.trans hh1
    have N1 := Fr.app N0 Nf1
    show Go p.tables e below _ T1 (mkF m 4 #[.val (.ref a1), .val (.int (Int32.ofNat i))] [(.int (1 : Int32))])
    refine Go.st (T' := T1) (g' := (mkF m 7 #[.val (.ref a1), .val (.int (Int32.ofNat i))] [])) (fun _ zk => XS.ifNo X1.here hx rfl (hb hby d21_4) rfl ((if0 _ _).trans (feq ((by decide) : ¬ ((1 : Int32) = (0 : Int32)))).1) zk) ?_
    refine Go.st (T' := T1) (g' := (mkF m 8 #[.val (.ref a1), .val (.int (Int32.ofNat i))] [(.ref a1)])) (fun _ zk => XS.aloadN X1.here hx rfl (hb hby d21_7) rfl rfl zk) ?_
    obtain ⟨T2, X2, e2, st2⟩ := getF X1 hx hZ hown (host := "") (Or.inl (w25 hw)) Via.refl E1 F_a1 (g := (mkF m 8 #[.val (.ref a1), .val (.int (Int32.ofNat i))] [(.ref a1)])) rfl rfl (hb hby d21_8)
    refine Go.st (T' := T2) (g' := (mkF m 11 #[.val (.ref a1), .val (.int (Int32.ofNat i))] [(.ref t1)])) (fun _ zk => st2 _ zk) ?_
    refine Go.st (T' := T2) (g' := (mkF m 12 #[.val (.ref a1), .val (.int (Int32.ofNat i))] [(.int (Int32.ofNat i)), (.ref t1)])) (fun _ zk => XS.iloadN X2.here hx rfl (hb hby d21_11) rfl zk) ?_
    refine Go.callSt (y := (⟨"java/lang/StringLatin1", "charAt", "([BI)C"⟩ : MethodName)) X2 hx hZ hown e2 (w128 hw) (w129 hw) (w130 hw) (w131 hw) (by decide) (argsL := [(.ref t1), (.int (Int32.ofNat i))]) (rest := []) (W := 0) (rm_latinAt l Z a0 hw [] t1 k1 xs i fm h0 n0 Z0 O0 V_a1 (by omega) (by omega) FM rf) rfl (lenOf pd6 rfl) rfl (by rw [hml]; rfl) rfl (by show 2 * 0 + _ ≤ _; exact Nat.le_of_eq rfl) (by decide) (by decide) (by decide) (by decide) (hb hby d21_12) ?_
    intro v3 T3 h3 L3 X3 e3 q3
    obtain ⟨hv3, Nf3, hh3⟩ := q3
    subst hv3
    have E3 : T3.heap = h0 := e3.trans hh3
    have N3 := Fr.app N1 Nf3
    show Go p.tables e below _ T3 (mkF m 15 #[.val (.ref a1), .val (.int (Int32.ofNat i))] [(.int (((xs.getD i 0) &&& (255 : Int32)).toUInt32.toUInt16.toUInt32.toInt32))])
    rw [hx0 i hi, own_u8c hrg (hle i hi)]
    refine Go.retN X3 hx hlk hret (congrArg Value.int (nar_cid hrg)) (by simp) (hb hby d21_15) (by decide) (by decide) E3 ?_
    exact ⟨rfl, N3, rfl⟩
  · obtain ⟨t1, k1, E_a1, C_a1, F_a1, V_a1⟩ := S1
    rw [hl] at V_a1
    refine Go.st (T' := s₁) (g' := (mkF m 1 #[.val (.ref a1), .val (.int (Int32.ofNat i))] [(.ref a1)])) (fun _ zk => XS.aloadN X0.here hx rfl (hb hby d21_0) rfl rfl zk) ?_
    refine Go.callV (y := (⟨"java/lang/String", "isLatin1", "()Z"⟩ : MethodName)) (z := (⟨"java/lang/String", "isLatin1", "()Z"⟩ : MethodName)) (C := "java/lang/String") (a := a1) X0 hx hZ hown e0 (w123 hw) (w124 hw) (w126 hw) (w125 hw) (w7 hw) (w127 hw) (notFace_of_selects (args := #[]) (mvT hZ (w126 hw))) (by decide) E_a1 (argsL := []) (rest := []) (W := 0) (rm_isLatinU l Z a0 hw [] a1 zc h0 n0 Z0 O0 C_a1 CS hz) rfl (lenOf pd15 rfl) rfl (by rw [hml]; rfl) rfl (by show 2 * 0 + _ ≤ _; exact Nat.le_of_eq rfl) (by decide) (by decide) (by decide) (by decide) (hb hby d21_1) ?_
    intro v4 T4 h4 L4 X4 e4 q4
    obtain ⟨hv4, Nf4, hh4⟩ := q4
    subst hv4
    have E4 : T4.heap = h0 := e4.trans hh4
    have N4 := Fr.app N0 Nf4
    show Go p.tables e below _ T4 (mkF m 4 #[.val (.ref a1), .val (.int (Int32.ofNat i))] [(.int (0 : Int32))])
    refine Go.st (T' := T4) (g' := (mkF m 16 #[.val (.ref a1), .val (.int (Int32.ofNat i))] [])) (fun _ zk => XS.ifYes X4.here hx rfl (pc0 := 4) (pc' := 16) rfl (hb hby d21_4) rfl ((if0 _ _).trans (teq (rfl : (0 : Int32) = (0 : Int32))).1) (by decide) (by decide) zk) ?_
    refine Go.st (T' := T4) (g' := (mkF m 17 #[.val (.ref a1), .val (.int (Int32.ofNat i))] [(.ref a1)])) (fun _ zk => XS.aloadN X4.here hx rfl (hb hby d21_16) rfl rfl zk) ?_
    obtain ⟨T5, X5, e5, st5⟩ := getF X4 hx hZ hown (host := "") (Or.inl (w25 hw)) Via.refl E4 F_a1 (g := (mkF m 17 #[.val (.ref a1), .val (.int (Int32.ofNat i))] [(.ref a1)])) rfl rfl (hb hby d21_17)
    refine Go.st (T' := T5) (g' := (mkF m 20 #[.val (.ref a1), .val (.int (Int32.ofNat i))] [(.ref t1)])) (fun _ zk => st5 _ zk) ?_
    refine Go.st (T' := T5) (g' := (mkF m 21 #[.val (.ref a1), .val (.int (Int32.ofNat i))] [(.int (Int32.ofNat i)), (.ref t1)])) (fun _ zk => XS.iloadN X5.here hx rfl (hb hby d21_20) rfl zk) ?_
    refine Go.callSt (y := (⟨"java/lang/StringUTF16", "charAt", "([BI)C"⟩ : MethodName)) X5 hx hZ hown e5 (w159 hw) (w160 hw) (w110 hw) (w161 hw) (by decide) (argsL := [(.ref t1), (.int (Int32.ofNat i))]) (rest := []) (W := 0) (rm_uatW l Z a0 hw [] t1 k1 xs n i fm h0 n0 Z0 O0 V_a1 hl hn hi FM rf UA UH UL) rfl (lenOf pd6 rfl) rfl (by rw [hml]; rfl) rfl (by show 2 * 0 + _ ≤ _; exact Nat.le_of_eq rfl) (by decide) (by decide) (by decide) (by decide) (hb hby d21_21) ?_
    intro v6 T6 h6 L6 X6 e6 q6
    obtain ⟨hv6, Nf6, hh6⟩ := q6
    subst hv6
    have E6 : T6.heap = h0 := e6.trans hh6
    have N6 := Fr.app N4 Nf6
    show Go p.tables e below _ T6 (mkF m 24 #[.val (.ref a1), .val (.int (Int32.ofNat i))] [(.int (((((xs.getD (2 * i) 0) &&& (255 : Int32)) <<< ((0 : Int32) &&& 31)) ||| (((xs.getD (2 * i + 1) 0) &&& (255 : Int32)) <<< ((8 : Int32) &&& 31))).toUInt32.toUInt16.toUInt32.toInt32))])
    rw [(hx0 i hi).1, (hx0 i hi).2, own_cc hrg]
    refine Go.retN X6 hx hlk hret (congrArg Value.int (nar_cid hrg)) (by simp) (hb hby d21_24) (by decide) (by decide) E6 ?_
    exact ⟨rfl, N6, rfl⟩
theorem d3_8 : decode jdk_42_method_149_code 8 = .ok (.aload_n 0, 1) := by decide +kernel
theorem d3_9 : decode jdk_42_method_149_code 9 = .ok (.ldc 7, 2) := by decide +kernel
theorem d3_11 : decode jdk_42_method_149_code 11 = .ok (.getfield 9, 3) := by decide +kernel
theorem d3_14 : decode jdk_42_method_149_code 14 = .ok (.putfield 9, 3) := by decide +kernel
theorem d3_17 : decode jdk_42_method_149_code 17 = .ok (.aload_n 0, 1) := by decide +kernel
theorem d3_18 : decode jdk_42_method_149_code 18 = .ok (.ldc 7, 2) := by decide +kernel
theorem d3_20 : decode jdk_42_method_149_code 20 = .ok (.getfield 15, 3) := by decide +kernel
theorem d3_23 : decode jdk_42_method_149_code 23 = .ok (.putfield 15, 3) := by decide +kernel
theorem d3_26 : decode jdk_42_method_149_code 26 = .ok (.return_, 1) := by decide +kernel
def rr_init4_0 : Room := { frames := 1, cells := 4, slots := 8, locals := 12 }
set_option maxRecDepth 65536 in
set_option maxHeartbeats 40000000 in
theorem rm_init4_0 (l : Launch) (Z : State) (a0 : Array Value) (hw : ∀ d ∈ tables_1, d.before a0 Z = true) (ws : List Jvm.Cond) (a1 b : Addr) (kC : ClassId) (h0 : Heap) (n0 : Nat) (Z0 : n0 ≤ h0.size) (E0 : Exa Z h0 a1 "java/lang/String") (g0 : n0 ≤ a1) (C0 : Fld Z h0 a1 "java/lang/String" "coder" "B" (.int (0 : Int32))) (V0 : Fld Z h0 a1 "java/lang/String" "value" "[B" .null) (VC : Arv Z h0 b kC .char (0 : Int32) [] (.int (0 : Int32))) :
    ConS l Z EL0 (⟨"java/lang/String", "<init>", "([CIILjava/lang/Void;)V"⟩ : MethodName) jdk_42_method_149_code 6 none ws rr_init4_0 #[(.ref a1), (.ref b), (.int (0 : Int32)), (.int (0 : Int32)), .null] h0 [a1] (fun v h L => v = none ∧ Fr n0 L ∧ Keep h0 h [a1] ∧ Fld Z h a1 "java/lang/String" "coder" "B" (.int (0 : Int32)) ∧ ∃ (t : Addr) (k : ClassId), Fld Z h a1 "java/lang/String" "value" "[B" (.ref t) ∧ Arv Z h t k .byte (0 : Int32) [] (.int (0 : Int32))) := by
  refine ConS.enter (plainFor_of_name pn8) ?_
  intro p e s m below meth c s₁ X0 hx hZ hby hml hret hlk hown hnm e0 hS hA hsf
  have N0 := Fr.nil n0
  have hEL := hEL0 hw
  have hSt := hSt0 hw
  refine Go.cast (g' := (mkF m 0 #[.val (.ref a1), .val (.ref b), .val (.int (0 : Int32)), .val (.int (0 : Int32)), .val .null, .unset] [])) (by first | rfl | (simp [entryFrame, mkF, argsToLocals, Value.category]; done)) ?_
  refine Go.st (T' := s₁) (g' := (mkF m 1 #[.val (.ref a1), .val (.ref b), .val (.int (0 : Int32)), .val (.int (0 : Int32)), .val .null, .unset] [(.ref a1)])) (fun _ zk => XS.aloadN X0.here hx rfl (hb hby d3_0) rfl rfl zk) ?_
  obtain ⟨T1, X1, e1, st1⟩ := initO X0 hx hZ hown (w16 hw) (w17 hw) (w18 hw) e0 (g := (mkF m 1 #[.val (.ref a1), .val (.ref b), .val (.int (0 : Int32)), .val (.int (0 : Int32)), .val .null, .unset] [(.ref a1)])) rfl (by rw [hml]; rfl) rfl (hb hby d3_1) (by decide) (W := 0) (by show 2 * 0 + _ ≤ _; exact Nat.le_of_eq rfl) (by decide)
  refine Go.st (T' := T1) (g' := (mkF m 4 #[.val (.ref a1), .val (.ref b), .val (.int (0 : Int32)), .val (.int (0 : Int32)), .val .null, .unset] [])) (fun _ zk => st1 _ zk) ?_
  refine Go.st (T' := T1) (g' := (mkF m 5 #[.val (.ref a1), .val (.ref b), .val (.int (0 : Int32)), .val (.int (0 : Int32)), .val .null, .unset] [(.int (0 : Int32))])) (fun _ zk => XS.iloadN X1.here hx rfl (hb hby d3_4) rfl zk) ?_
  refine Go.st (T' := T1) (g' := (mkF m 8 #[.val (.ref a1), .val (.ref b), .val (.int (0 : Int32)), .val (.int (0 : Int32)), .val .null, .unset] [])) (fun _ zk => XS.ifNo X1.here hx rfl (hb hby d3_5) rfl ((if0 _ _).trans (teq (rfl : (0 : Int32) = (0 : Int32))).2) zk) ?_
  refine Go.st (T' := T1) (g' := (mkF m 9 #[.val (.ref a1), .val (.ref b), .val (.int (0 : Int32)), .val (.int (0 : Int32)), .val .null, .unset] [(.ref a1)])) (fun _ zk => XS.aloadN X1.here hx rfl (hb hby d3_8) rfl rfl zk) ?_
  obtain ⟨l2, T2, h2, kk2, lt2, kl2, X2, e2, E2, hS, hk2, hZ', hown, A2, C2, F2, V2, la2, lb2, cr2, -, sf2, st2⟩ := ldcCH X1 hx hZ hown (w19 hw) hSt e1 hS (Nat.zero_le _) hEL (by decide) hA.1 (vs := []) (z := (0 : Int32)) ⟨by decide, by decide⟩ (by decide) (by decide) (g := (mkF m 9 #[.val (.ref a1), .val (.ref b), .val (.int (0 : Int32)), .val (.int (0 : Int32)), .val .null, .unset] [(.ref a1)])) rfl (hb hby d3_9) (n := 0) (by decide) (by decide) (by decide) (by decide)
  have hZ : Z.Warmed39 T2.vm := hZ'
  have ca3 := hA.trans cr2
  have sf_4 := cr2.safe E0.lt (hsf a1 (List.mem_of_getElem? (i := 0) rfl))
  refine Go.st (T' := T2) (g' := (mkF m 11 #[.val (.ref a1), .val (.ref b), .val (.int (0 : Int32)), .val (.int (0 : Int32)), .val .null, .unset] [(.ref l2), (.ref a1)])) (fun _ zk => st2 _ zk) ?_
  obtain ⟨T5, X5, e5, st5⟩ := getF X2 hx hZ hown (host := "") (Or.inl (w25 hw)) Via.refl e2 F2 (g := (mkF m 11 #[.val (.ref a1), .val (.ref b), .val (.int (0 : Int32)), .val (.int (0 : Int32)), .val .null, .unset] [(.ref l2), (.ref a1)])) rfl rfl (hb hby d3_11)
  refine Go.st (T' := T5) (g' := (mkF m 14 #[.val (.ref a1), .val (.ref b), .val (.int (0 : Int32)), .val (.int (0 : Int32)), .val .null, .unset] [(.ref lt2), (.ref a1)])) (fun _ zk => st5 _ zk) ?_
  have xt7 : Ext h0 h2 := E2
  have f8 := V0.ext xt7
  have f9 := E0.ext xt7
  obtain ⟨T6, h6, X6, e6, W6, st6⟩ := putF X5 hx hZ hown (host := "") (Or.inl (w25 hw)) Via.refl e5 f8 f9 (Or.inr ⟨(w21 hw), rfl, hnm⟩) (w6 hw) (ty := (.array .byte)) (by decide) rfl rfl (g := (mkF m 14 #[.val (.ref a1), .val (.ref b), .val (.int (0 : Int32)), .val (.int (0 : Int32)), .val .null, .unset] [(.ref lt2), (.ref a1)])) rfl rfl (hb hby d3_14)
  have F6 := f8.same W6
  have N6 := Fr.snoc X6 N0 g0
  refine Go.st (T' := T6) (g' := (mkF m 17 #[.val (.ref a1), .val (.ref b), .val (.int (0 : Int32)), .val (.int (0 : Int32)), .val .null, .unset] [])) (fun _ zk => st6 _ zk) ?_
  refine Go.st (T' := T6) (g' := (mkF m 18 #[.val (.ref a1), .val (.ref b), .val (.int (0 : Int32)), .val (.int (0 : Int32)), .val .null, .unset] [(.ref a1)])) (fun _ zk => XS.aloadN X6.here hx rfl (hb hby d3_17) rfl rfl zk) ?_
  have cr11 := (chrW ca3 W6 sf_4)
  have cr12 := ca3
  obtain ⟨l10, T10, h10, kk10, lt10, kl10, X10, e10, E10, hS, hk10, hZ', hown, A10, C10, F10, V10, la10, lb10, cr10, -, sf10, st10⟩ := ldcCH X6 hx hZ hown (w19 hw) hSt e6 hS (Nat.le_trans hk2 (Keep.of_wr W6).1) hEL (by decide) cr11.1 (vs := []) (z := (0 : Int32)) ⟨by decide, by decide⟩ (by decide) (by decide) (g := (mkF m 18 #[.val (.ref a1), .val (.ref b), .val (.int (0 : Int32)), .val (.int (0 : Int32)), .val .null, .unset] [(.ref a1)])) rfl (hb hby d3_18) (n := 0) (by decide) (by decide) (by decide) (by decide)
  have hZ : Z.Warmed39 T10.vm := hZ'
  have ca13 := cr11.trans cr10
  have sf_14 := cr10.safe (Nat.lt_of_lt_of_le E0.lt (Nat.le_trans E2.1 (Keep.of_wr W6).1)) (Safe.wr W6 sf_4 (cr12).1 sf_4)
  refine Go.st (T' := T10) (g' := (mkF m 20 #[.val (.ref a1), .val (.ref b), .val (.int (0 : Int32)), .val (.int (0 : Int32)), .val .null, .unset] [(.ref l10), (.ref a1)])) (fun _ zk => st10 _ zk) ?_
  obtain ⟨T15, X15, e15, st15⟩ := getF X10 hx hZ hown (host := "") (Or.inl (w26 hw)) Via.refl e10 C10 (g := (mkF m 20 #[.val (.ref a1), .val (.ref b), .val (.int (0 : Int32)), .val (.int (0 : Int32)), .val .null, .unset] [(.ref l10), (.ref a1)])) rfl rfl (hb hby d3_20)
  refine Go.st (T' := T15) (g' := (mkF m 23 #[.val (.ref a1), .val (.ref b), .val (.int (0 : Int32)), .val (.int (0 : Int32)), .val .null, .unset] [(.int (0 : Int32)), (.ref a1)])) (fun _ zk => st15 _ zk) ?_
  have f17 := (((C0.ext E2).other W6 (Or.inr (slot_ne (Or.inr (w22 hw)) (Or.inr (w21 hw)) (by decide) (t := .byte) (t' := (.array .byte)) (by decide) (by decide)))).ext E10)
  have f18 := ((f9.wr W6).ext E10)
  obtain ⟨T16, h16, X16, e16, W16, st16⟩ := putF X15 hx hZ hown (host := "") (Or.inl (w26 hw)) Via.refl e15 f17 f18 (Or.inr ⟨(w22 hw), rfl, hnm⟩) (w6 hw) (v := (.int (0 : Int32))) (ty := .byte) (by decide) rfl rfl (g := (mkF m 23 #[.val (.ref a1), .val (.ref b), .val (.int (0 : Int32)), .val (.int (0 : Int32)), .val .null, .unset] [(.int (0 : Int32)), (.ref a1)])) rfl rfl (hb hby d3_23)
  have F16 := f17.same W16
  have N16 := Fr.snoc X16 N6 g0
  refine Go.st (T' := T16) (g' := (mkF m 26 #[.val (.ref a1), .val (.ref b), .val (.int (0 : Int32)), .val (.int (0 : Int32)), .val .null, .unset] [])) (fun _ zk => st16 _ zk) ?_
  have f19 := ((F6.ext E10).other W16 (Or.inr (slot_ne (Or.inr (w21 hw)) (Or.inr (w22 hw)) (by decide) (t := (.array .byte)) (t' := .byte) (by decide) (by decide))))
  have f20 := (((V2.other W6 (Ne.symm (sf2 a1 sf_4).2)).ext E10).other W16 (Ne.symm (sf2 a1 sf_4).2))
  have cr21 := (chrW ca13 W16 sf_14)
  refine Go.retVS X16 hx hlk hS (Nat.le_trans hk10 (Keep.of_wr W16).1) cr21 hZ hEL hret (hb hby d3_26) (by decide) (by decide) e16 ?_
  exact ⟨rfl, N16, (((((Keep.refl h0 [a1]).ext E2).wr W6 (Or.inl (List.mem_of_getElem? (i := 0) rfl))).ext E10).wr W16 (Or.inl (List.mem_of_getElem? (i := 0) rfl))), F16, lt2, _, f19, f20⟩
def rr_init1_0 : Room := { frames := 2, cells := 4, slots := 8, locals := 29 }
set_option maxRecDepth 65536 in
set_option maxHeartbeats 40000000 in
theorem rm_init1_0 (l : Launch) (Z : State) (a0 : Array Value) (hw : ∀ d ∈ tables_1, d.before a0 Z = true) (ws : List Jvm.Cond) (a1 b : Addr) (kC : ClassId) (h0 : Heap) (n0 : Nat) (Z0 : n0 ≤ h0.size) (E0 : Exa Z h0 a1 "java/lang/String") (g0 : n0 ≤ a1) (C0 : Fld Z h0 a1 "java/lang/String" "coder" "B" (.int (0 : Int32))) (V0 : Fld Z h0 a1 "java/lang/String" "value" "[B" .null) (VC : Arv Z h0 b kC .char (0 : Int32) [] (.int (0 : Int32))) :
    ConS l Z EL0 (⟨"java/lang/String", "<init>", "([C)V"⟩ : MethodName) jdk_42_method_3_code 2 none ws rr_init1_0 #[(.ref a1), (.ref b)] h0 [a1] (fun v h L => v = none ∧ Fr n0 L ∧ Keep h0 h [a1] ∧ Fld Z h a1 "java/lang/String" "coder" "B" (.int (0 : Int32)) ∧ ∃ (t : Addr) (k : ClassId), Fld Z h a1 "java/lang/String" "value" "[B" (.ref t) ∧ Arv Z h t k .byte (0 : Int32) [] (.int (0 : Int32))) := by
  refine ConS.enter (plainFor_of_name pn8) ?_
  intro p e s m below meth c s₁ X0 hx hZ hby hml hret hlk hown hnm e0 hS hA hsf
  have N0 := Fr.nil n0
  have hEL := hEL0 hw
  have hSt := hSt0 hw
  refine Go.cast (g' := (mkF m 0 #[.val (.ref a1), .val (.ref b)] [])) (by first | rfl | (simp [entryFrame, mkF, argsToLocals, Value.category]; done)) ?_
  refine Go.st (T' := s₁) (g' := (mkF m 1 #[.val (.ref a1), .val (.ref b)] [(.ref a1)])) (fun _ zk => XS.aloadN X0.here hx rfl (hb hby d2_0) rfl rfl zk) ?_
  refine Go.st (T' := s₁) (g' := (mkF m 2 #[.val (.ref a1), .val (.ref b)] [(.ref b), (.ref a1)])) (fun _ zk => XS.aloadN X0.here hx rfl (hb hby d2_1) rfl rfl zk) ?_
  refine Go.st (T' := s₁) (g' := (mkF m 3 #[.val (.ref a1), .val (.ref b)] [(.int (0 : Int32)), (.ref b), (.ref a1)])) (fun _ zk => XS.iconst X0.here hx rfl (hb hby d2_2) zk) ?_
  refine Go.st (T' := s₁) (g' := (mkF m 4 #[.val (.ref a1), .val (.ref b)] [(.ref b), (.int (0 : Int32)), (.ref b), (.ref a1)])) (fun _ zk => XS.aloadN X0.here hx rfl (hb hby d2_3) rfl rfl zk) ?_
  refine Go.st (T' := s₁) (g' := (mkF m 5 #[.val (.ref a1), .val (.ref b)] [(.int (0 : Int32)), (.int (0 : Int32)), (.ref b), (.ref a1)])) (fun _ zk => lenV X0 hx hZ e0 VC (g := (mkF m 4 #[.val (.ref a1), .val (.ref b)] [(.ref b), (.int (0 : Int32)), (.ref b), (.ref a1)])) rfl (rest := [(.int (0 : Int32)), (.ref b), (.ref a1)]) rfl (hb hby d2_4) zk) ?_
  refine Go.st (T' := s₁) (g' := (mkF m 6 #[.val (.ref a1), .val (.ref b)] [.null, (.int (0 : Int32)), (.int (0 : Int32)), (.ref b), (.ref a1)])) (fun _ zk => XS.aconstNull X0.here hx rfl (hb hby d2_5) zk) ?_
  refine Go.callSpS (y := (⟨"java/lang/String", "<init>", "([CIILjava/lang/Void;)V"⟩ : MethodName)) (a := a1) X0 hx hZ hown e0 hEL hA.1 hS (Nat.zero_le _) rfl (w12 hw) (w13 hw) (w7 hw) (w15 hw) (by decide) (argsL := [(.ref b), (.int (0 : Int32)), (.int (0 : Int32)), .null]) (rest := []) (W := 0) (rm_init4_0 l Z a0 hw [] a1 b kC h0 n0 Z0 E0 g0 C0 V0 VC) (allS (P := fun x => x < h0.size ∧ Safe Z EL0 s.vm h0 x) ⟨E0.lt, (hsf a1 (List.mem_of_getElem? (i := 0) rfl))⟩ all0) rfl (lenOf pd9 rfl) rfl (by rw [hml]; rfl) rfl (by show 2 * 0 + _ ≤ _; exact Nat.le_of_eq rfl) (by decide) (by decide) (by decide) (by decide) (hb hby d2_6) ?_
  intro v1 T1 h1 L1 X1 e1 q1 hS hZ hown cr1
  obtain ⟨hv1, Nf1, K1, C1, t1, k1, F1, V1⟩ := q1
  subst hv1
  have N1 := Fr.app N0 Nf1
  have ca2 := hA.trans cr1
  show Go p.tables e below _ T1 (mkF m 9 #[.val (.ref a1), .val (.ref b)] [])
  refine Go.retVS X1 hx hlk hS (Nat.le_refl _) ca2 hZ hEL hret (hb hby d2_9) (by decide) (by decide) e1 ?_
  exact ⟨rfl, N1, ((Keep.refl h0 [a1]).trans K1 (allS (P := fun x => x ∈ [a1] ∨ h0.size ≤ x) (Or.inl (List.mem_of_getElem? (i := 0) rfl)) all0)), C1, t1, _, F1, V1⟩
theorem d14_0 : decode jdk_42_method_66_code 0 = .ok (.aload_n 0, 1) := by decide +kernel
theorem d14_1 : decode jdk_42_method_66_code 1 = .ok (.aload_n 1, 1) := by decide +kernel
theorem d14_2 : decode jdk_42_method_66_code 2 = .ok (.if_acmp .ne 5, 3) := by decide +kernel
theorem d14_5 : decode jdk_42_method_66_code 5 = .ok (.iconst 1, 1) := by decide +kernel
theorem d14_6 : decode jdk_42_method_66_code 6 = .ok (.ireturn, 1) := by decide +kernel
def rr_eqId : Room := { frames := 0, cells := 0, slots := 0, locals := 0 }
set_option maxRecDepth 65536 in
set_option maxHeartbeats 40000000 in
theorem rm_eqId (l : Launch) (Z : State) (a0 : Array Value) (hw : ∀ d ∈ tables_1, d.before a0 Z = true) (ws : List Jvm.Cond) (a : Addr) (h0 : Heap) (n0 : Nat) (Z0 : n0 ≤ h0.size)  :
    Con l Z (⟨"java/lang/String", "equals", "(Ljava/lang/Object;)Z"⟩ : MethodName) jdk_42_method_66_code 3 (some .boolean) ws rr_eqId #[(.ref a), (.ref a)] h0 (fun v h L => v = some (.int 1) ∧ Fr n0 L ∧ h = h0) := by
  refine Con.enter (plainFor_of_name pn8) ?_
  intro p e s m below meth c s₁ X0 hx hZ hby hml hret hlk hown hnm e0
  have N0 := Fr.nil n0
  refine Go.cast (g' := (mkF m 0 #[.val (.ref a), .val (.ref a), .unset] [])) (by first | rfl | (simp [entryFrame, mkF, argsToLocals, Value.category]; done)) ?_
  refine Go.st (T' := s₁) (g' := (mkF m 1 #[.val (.ref a), .val (.ref a), .unset] [(.ref a)])) (fun _ zk => XS.aloadN X0.here hx rfl (hb hby d14_0) rfl rfl zk) ?_
  refine Go.st (T' := s₁) (g' := (mkF m 2 #[.val (.ref a), .val (.ref a), .unset] [(.ref a), (.ref a)])) (fun _ zk => XS.aloadN X0.here hx rfl (hb hby d14_1) rfl rfl zk) ?_
  refine Go.st (T' := s₁) (g' := (mkF m 5 #[.val (.ref a), .val (.ref a), .unset] [])) (fun _ zk => Jvm.RoadKit.acmp (g := (mkF m 2 #[.val (.ref a), .val (.ref a), .unset] [(.ref a), (.ref a)])) X0 hx rfl rfl rfl (pc0 := 2) (pc' := 5) (same := true) rfl (hb hby d14_2) rfl (decide_eq_true rfl) (by decide) (by decide) zk) ?_
  refine Go.st (T' := s₁) (g' := (mkF m 6 #[.val (.ref a), .val (.ref a), .unset] [(.int (1 : Int32))])) (fun _ zk => XS.iconst X0.here hx rfl (hb hby d14_5) zk) ?_
  refine Go.retN X0 hx hlk hret rfl (by simp) (hb hby d14_6) (by decide) (by decide) e0 ?_
  exact ⟨rfl, N0, rfl⟩
theorem d6_0 : decode jdk_31_method_11_code 0 = .ok (.aload_n 0, 1) := by decide +kernel
theorem d6_1 : decode jdk_31_method_11_code 1 = .ok (.ifnonnull 12, 3) := by decide +kernel
theorem d6_13 : decode jdk_31_method_11_code 13 = .ok (.aload_n 0, 1) := by decide +kernel
theorem d6_14 : decode jdk_31_method_11_code 14 = .ok (.areturn, 1) := by decide +kernel
def rr_rnn : Room := { frames := 0, cells := 0, slots := 0, locals := 0 }
theorem pn18 : plainName "java/util/Objects" = true := by first | (simp [plainName, overriddenIn]; done) | decide +kernel
set_option maxRecDepth 65536 in
set_option maxHeartbeats 40000000 in
theorem rm_rnn (l : Launch) (Z : State) (a0 : Array Value) (hw : ∀ d ∈ tables_1, d.before a0 Z = true) (ws : List Jvm.Cond) (u w : Addr) (h0 : Heap) (n0 : Nat) (Z0 : n0 ≤ h0.size)  :
    Con l Z (⟨"java/util/Objects", "requireNonNull", "(Ljava/lang/Object;Ljava/lang/String;)Ljava/lang/Object;"⟩ : MethodName) jdk_31_method_11_code 2 (some (.object "java/lang/Object")) ws rr_rnn #[(.ref u), (.ref w)] h0 (fun v h L => v = some (.ref u) ∧ Fr n0 L ∧ h = h0) := by
  refine Con.enter (plainFor_of_name pn18) ?_
  intro p e s m below meth c s₁ X0 hx hZ hby hml hret hlk hown hnm e0
  have N0 := Fr.nil n0
  refine Go.cast (g' := (mkF m 0 #[.val (.ref u), .val (.ref w)] [])) (by first | rfl | (simp [entryFrame, mkF, argsToLocals, Value.category]; done)) ?_
  refine Go.st (T' := s₁) (g' := (mkF m 1 #[.val (.ref u), .val (.ref w)] [(.ref u)])) (fun _ zk => XS.aloadN X0.here hx rfl (hb hby d6_0) rfl rfl zk) ?_
  refine Go.st (T' := s₁) (g' := (mkF m 13 #[.val (.ref u), .val (.ref w)] [])) (fun _ zk => XS.ifnonnullYes X0.here hx rfl (pc0 := 1) (pc' := 13) rfl (hb hby d6_1) rfl (by decide) (by decide) zk) ?_
  refine Go.st (T' := s₁) (g' := (mkF m 14 #[.val (.ref u), .val (.ref w)] [(.ref u)])) (fun _ zk => XS.aloadN X0.here hx rfl (hb hby d6_13) rfl rfl zk) ?_
  refine Go.retA X0 hx hlk hret rfl rfl (hb hby d6_14) (by decide) (by decide) e0 ?_
  exact ⟨rfl, N0, rfl⟩
def chs (n a b c : Int32) : List Int32 := if n = 0 then [] else if n = 1 then [a] else if n = 2 then [a, b] else [a, b, c]
theorem own_4 {i : Int32} (h : 0 ≤ i.toInt ∧ i.toInt ≤ 3) : i = 0 ∨ i = 1 ∨ i = 2 ∨ i = 3 := by
  have e : ∀ k : Int32, i.toInt = k.toInt → i = k := fun k q => Int32.toInt_inj.mp q
  have h2 : i.toInt = 0 ∨ i.toInt = 1 ∨ i.toInt = 2 ∨ i.toInt = 3 := by omega
  rcases h2 with q | q | q | q
  · exact Or.inl (e 0 q)
  · exact Or.inr (Or.inl (e 1 q))
  · exact Or.inr (Or.inr (Or.inl (e 2 q)))
  · exact Or.inr (Or.inr (Or.inr (e 3 q)))
theorem own_m4 (x : Int32) : 0 ≤ (x &&& 3).toInt ∧ (x &&& 3).toInt ≤ 3 := by
  have h := c_mask x 3 2 (by decide) (by decide)
  omega
theorem own_chl (n a b c : Int32) : (chs n a b c).length < 2 ^ 30 := by unfold chs; split <;> (try split) <;> (try split) <;> simp
theorem own_chlen {n a b c : Int32} (h : 0 ≤ n.toInt ∧ n.toInt ≤ 3) : Int32.ofNat (chs n a b c).length = n := by
  rcases own_4 h with rfl | rfl | rfl | rfl <;> rfl
theorem own_chr {n a b c : Int32} (ha : 0 ≤ a.toInt ∧ a.toInt < 65536) (hb : 0 ≤ b.toInt ∧ b.toInt < 65536) (hc : 0 ≤ c.toInt ∧ c.toInt < 65536) : ∀ x ∈ chs n a b c, 0 ≤ x.toInt ∧ x.toInt < 65536 := by
  intro x hx
  have q : x = a ∨ x = b ∨ x = c := by
    unfold chs at hx
    split at hx <;> (try split at hx) <;> (try split at hx) <;> simp at hx <;> first | exact Or.inl hx | exact hx | exact hx.elim Or.inl fun z => Or.inr (Or.inl z)
  rcases q with rfl | rfl | rfl <;> assumption
theorem own_c16 (x : Int32) : 0 ≤ (x.toUInt32.toUInt16.toUInt32.toInt32).toInt ∧ (x.toUInt32.toUInt16.toUInt32.toInt32).toInt < 65536 := (c_i2c x).2
theorem d1_0 : decode method_2_code 0 = .ok (.iload_n 0, 1) := by decide +kernel
theorem d1_1 : decode method_2_code 1 = .ok (.ifCond .ne 14, 3) := by decide +kernel
theorem d1_4 : decode method_2_code 4 = .ok (.new 7, 3) := by decide +kernel
theorem w5 {a0 : Array Value} {Z : State} (hw : ∀ d ∈ tables_1, d.before a0 Z = true) : ((Jvm.Cond.classLink "com/example/payment_retry_queue/paymentretryqueue/AttemptAnswerSucceededPinLaw" (7 : Nat) "java/lang/String")).before a0 Z = true := hw _ (List.mem_of_getElem? (i := 5) rfl)
theorem d1_7 : decode method_2_code 7 = .ok (.dup, 1) := by decide +kernel
theorem d1_8 : decode method_2_code 8 = .ok (.iconst 0, 1) := by decide +kernel
theorem d1_9 : decode method_2_code 9 = .ok (.newarray .char, 2) := by decide +kernel
theorem w8 {a0 : Array Value} {Z : State} (hw : ∀ d ∈ tables_1, d.before a0 Z = true) : ((Jvm.Cond.arrayClass Jvm.ClassFile.FieldType.char)).before a0 Z = true := hw _ (List.mem_of_getElem? (i := 8) rfl)
theorem w11 {a0 : Array Value} {Z : State} (hw : ∀ d ∈ tables_1, d.before a0 Z = true) : ((Jvm.Cond.code ({ cls := "java/lang/String", name := "<init>", desc := "([C)V" } : Jvm.MethodName) jdk_42_method_3_code (2 : Nat) (Option.none : Option Jvm.ClassFile.FieldType))).before a0 Z = true := hw _ (List.mem_of_getElem? (i := 11) rfl)
theorem pd19 : parseMethodDescriptor "([C)V" = some ⟨[(.array .char)], none⟩ := by decide +kernel
theorem d1_11 : decode method_2_code 11 = .ok (.invokespecial 9, 3) := by decide +kernel
theorem w9 {a0 : Array Value} {Z : State} (hw : ∀ d ∈ tables_1, d.before a0 Z = true) : ((Jvm.Cond.methodLink "com/example/payment_retry_queue/paymentretryqueue/AttemptAnswerSucceededPinLaw" (9 : Nat) ({ cls := "java/lang/String", name := "<init>", desc := "([C)V" } : Jvm.MethodName))).before a0 Z = true := hw _ (List.mem_of_getElem? (i := 9) rfl)
theorem w10 {a0 : Array Value} {Z : State} (hw : ∀ d ∈ tables_1, d.before a0 Z = true) : ((Jvm.Cond.instanceMethod ({ cls := "java/lang/String", name := "<init>", desc := "([C)V" } : Jvm.MethodName))).before a0 Z = true := hw _ (List.mem_of_getElem? (i := 10) rfl)
theorem d1_14 : decode method_2_code 14 = .ok (.areturn, 1) := by decide +kernel
theorem d1_15 : decode method_2_code 15 = .ok (.iload_n 0, 1) := by decide +kernel
theorem d1_16 : decode method_2_code 16 = .ok (.iconst 1, 1) := by decide +kernel
theorem d1_17 : decode method_2_code 17 = .ok (.if_icmp .ne 23, 3) := by decide +kernel
theorem d1_20 : decode method_2_code 20 = .ok (.iconst 1, 1) := by decide +kernel
theorem d1_21 : decode method_2_code 21 = .ok (.newarray .char, 2) := by decide +kernel
theorem d1_23 : decode method_2_code 23 = .ok (.astore 4, 2) := by decide +kernel
theorem d1_25 : decode method_2_code 25 = .ok (.aload 4, 2) := by decide +kernel
theorem d1_27 : decode method_2_code 27 = .ok (.iconst 0, 1) := by decide +kernel
theorem d1_28 : decode method_2_code 28 = .ok (.iload_n 1, 1) := by decide +kernel
theorem d1_29 : decode method_2_code 29 = .ok (.castore, 1) := by decide +kernel
theorem d1_30 : decode method_2_code 30 = .ok (.new 7, 3) := by decide +kernel
theorem d1_33 : decode method_2_code 33 = .ok (.dup, 1) := by decide +kernel
theorem d1_34 : decode method_2_code 34 = .ok (.aload 4, 2) := by decide +kernel
theorem d1_36 : decode method_2_code 36 = .ok (.invokespecial 9, 3) := by decide +kernel
theorem d1_39 : decode method_2_code 39 = .ok (.areturn, 1) := by decide +kernel
theorem d1_40 : decode method_2_code 40 = .ok (.iload_n 0, 1) := by decide +kernel
theorem d1_41 : decode method_2_code 41 = .ok (.iconst 2, 1) := by decide +kernel
theorem d1_42 : decode method_2_code 42 = .ok (.if_icmp .ne 28, 3) := by decide +kernel
theorem d1_45 : decode method_2_code 45 = .ok (.iconst 2, 1) := by decide +kernel
theorem d1_46 : decode method_2_code 46 = .ok (.newarray .char, 2) := by decide +kernel
theorem d1_48 : decode method_2_code 48 = .ok (.astore 4, 2) := by decide +kernel
theorem d1_50 : decode method_2_code 50 = .ok (.aload 4, 2) := by decide +kernel
theorem d1_52 : decode method_2_code 52 = .ok (.iconst 0, 1) := by decide +kernel
theorem d1_53 : decode method_2_code 53 = .ok (.iload_n 1, 1) := by decide +kernel
theorem d1_54 : decode method_2_code 54 = .ok (.castore, 1) := by decide +kernel
theorem d1_55 : decode method_2_code 55 = .ok (.aload 4, 2) := by decide +kernel
theorem d1_57 : decode method_2_code 57 = .ok (.iconst 1, 1) := by decide +kernel
theorem d1_58 : decode method_2_code 58 = .ok (.iload_n 2, 1) := by decide +kernel
theorem d1_59 : decode method_2_code 59 = .ok (.castore, 1) := by decide +kernel
theorem d1_60 : decode method_2_code 60 = .ok (.new 7, 3) := by decide +kernel
theorem d1_63 : decode method_2_code 63 = .ok (.dup, 1) := by decide +kernel
theorem d1_64 : decode method_2_code 64 = .ok (.aload 4, 2) := by decide +kernel
theorem d1_66 : decode method_2_code 66 = .ok (.invokespecial 9, 3) := by decide +kernel
theorem d1_69 : decode method_2_code 69 = .ok (.areturn, 1) := by decide +kernel
theorem d1_70 : decode method_2_code 70 = .ok (.iconst 3, 1) := by decide +kernel
theorem d1_71 : decode method_2_code 71 = .ok (.newarray .char, 2) := by decide +kernel
theorem d1_73 : decode method_2_code 73 = .ok (.astore 4, 2) := by decide +kernel
theorem d1_75 : decode method_2_code 75 = .ok (.aload 4, 2) := by decide +kernel
theorem d1_77 : decode method_2_code 77 = .ok (.iconst 0, 1) := by decide +kernel
theorem d1_78 : decode method_2_code 78 = .ok (.iload_n 1, 1) := by decide +kernel
theorem d1_79 : decode method_2_code 79 = .ok (.castore, 1) := by decide +kernel
theorem d1_80 : decode method_2_code 80 = .ok (.aload 4, 2) := by decide +kernel
theorem d1_82 : decode method_2_code 82 = .ok (.iconst 1, 1) := by decide +kernel
theorem d1_83 : decode method_2_code 83 = .ok (.iload_n 2, 1) := by decide +kernel
theorem d1_84 : decode method_2_code 84 = .ok (.castore, 1) := by decide +kernel
theorem d1_85 : decode method_2_code 85 = .ok (.aload 4, 2) := by decide +kernel
theorem d1_87 : decode method_2_code 87 = .ok (.iconst 2, 1) := by decide +kernel
theorem d1_88 : decode method_2_code 88 = .ok (.iload_n 3, 1) := by decide +kernel
theorem d1_89 : decode method_2_code 89 = .ok (.castore, 1) := by decide +kernel
theorem d1_90 : decode method_2_code 90 = .ok (.new 7, 3) := by decide +kernel
theorem d1_93 : decode method_2_code 93 = .ok (.dup, 1) := by decide +kernel
theorem d1_94 : decode method_2_code 94 = .ok (.aload 4, 2) := by decide +kernel
theorem d1_96 : decode method_2_code 96 = .ok (.invokespecial 9, 3) := by decide +kernel
theorem d1_99 : decode method_2_code 99 = .ok (.areturn, 1) := by decide +kernel
def rr_mk : Room := { frames := 6, cells := 6, slots := 16, locals := 88 }
theorem pn20 : plainName "com/example/payment_retry_queue/paymentretryqueue/AttemptAnswerSucceededPinLaw" = true := by first | (simp [plainName, overriddenIn]; done) | decide +kernel
set_option maxRecDepth 65536 in
set_option maxHeartbeats 40000000 in
theorem rm_mk (l : Launch) (Z : State) (a0 : Array Value) (hw : ∀ d ∈ tables_1, d.before a0 Z = true) (ws : List Jvm.Cond) (n ca cb cc zc : Int32) (h0 : Heap) (n0 : Nat) (Z0 : n0 ≤ h0.size) (O0 : Old Z n0 h0) (CS : Sta Z Z.heap "java/lang/String" "COMPACT_STRINGS" "Z" (.int zc)) (hz : ¬ zc = 0) (UA : Sta Z Z.heap "java/lang/StringUTF16" "$assertionsDisabled" "Z" (.int (1 : Int32))) (UH : Sta Z Z.heap "java/lang/StringUTF16" "HI_BYTE_SHIFT" "I" (.int (0 : Int32))) (UL : Sta Z Z.heap "java/lang/StringUTF16" "LO_BYTE_SHIFT" "I" (.int (8 : Int32))) (qca : 0 ≤ ca.toInt ∧ ca.toInt < 65536) (qcb : 0 ≤ cb.toInt ∧ cb.toInt < 65536) (qcc : 0 ≤ cc.toInt ∧ cc.toInt < 65536) :
    ConS l Z EL0 (⟨"com/example/payment_retry_queue/paymentretryqueue/AttemptAnswerSucceededPinLaw", "make", "(ICCC)Ljava/lang/String;"⟩ : MethodName) method_2_code 5 (some (.object "java/lang/String")) ws rr_mk #[(.int n), (.int ca), (.int cb), (.int cc)] h0 [] (fun v h L => ∃ a : Addr, v = some (.ref a) ∧ Fr n0 L ∧ Ext h0 h ∧ h0.size ≤ a ∧ StrC Z h a (chs n ca cb cc).length (chs n ca cb cc)) := by
  refine ConS.enter (plainFor_of_name pn20) ?_
  intro p e s m below meth c s₁ X0 hx hZ hby hml hret hlk hown hnm e0 hS hA hsf
  have N0 := Fr.nil n0
  have hEL := hEL0 hw
  have hSt := hSt0 hw
  refine Go.cast (g' := (mkF m 0 #[.val (.int n), .val (.int ca), .val (.int cb), .val (.int cc), .unset] [])) (by first | rfl | (simp [entryFrame, mkF, argsToLocals, Value.category]; done)) ?_
  refine Go.st (T' := s₁) (g' := (mkF m 1 #[.val (.int n), .val (.int ca), .val (.int cb), .val (.int cc), .unset] [(.int n)])) (fun _ zk => XS.iloadN X0.here hx rfl (hb hby d1_0) rfl zk) ?_
  by_cases hc1 : n = (0 : Int32)
  · refine Go.st (T' := s₁) (g' := (mkF m 4 #[.val (.int n), .val (.int ca), .val (.int cb), .val (.int cc), .unset] [])) (fun _ zk => XS.ifNo X0.here hx rfl (hb hby d1_1) rfl ((if0 _ _).trans (teq hc1).2) zk) ?_
    obtain ⟨T1, h1, X1, e1, E1, A1, D1, -, st1⟩ := newO X0 hx hZ hown (w5 hw) (w6 hw) (w7 hw) e0 (g := (mkF m 4 #[.val (.int n), .val (.int ca), .val (.int cb), .val (.int cc), .unset] [])) rfl (hb hby d1_4) (by decide) (by decide)
    obtain ⟨b1, g1⟩ : ∃ z, z = h0.size := ⟨_, rfl⟩
    rw [← g1] at A1 D1 st1
    have F1_value : Fld Z h1 b1 "java/lang/String" "value" "[B" .null := D1 (Or.inr (w21 hw)) (ty := (.array .byte)) (by decide)
    have F1_coder : Fld Z h1 b1 "java/lang/String" "coder" "B" (.int (0 : Int32)) := D1 (Or.inr (w22 hw)) (ty := .byte) (by decide)
    refine Go.st (T' := T1) (g' := (mkF m 7 #[.val (.int n), .val (.int ca), .val (.int cb), .val (.int cc), .unset] [(.ref b1)])) (fun _ zk => st1 _ zk) ?_
    refine Go.st (T' := T1) (g' := (mkF m 8 #[.val (.int n), .val (.int ca), .val (.int cb), .val (.int cc), .unset] [(.ref b1), (.ref b1)])) (fun _ zk => XS.dup X1.here hx rfl (hb hby d1_7) rfl rfl zk) ?_
    refine Go.st (T' := T1) (g' := (mkF m 9 #[.val (.int n), .val (.int ca), .val (.int cb), .val (.int cc), .unset] [(.int (0 : Int32)), (.ref b1), (.ref b1)])) (fun _ zk => XS.iconst X1.here hx rfl (hb hby d1_8) zk) ?_
    obtain ⟨T2, h2, k2, X2, e2, E2, A2, st2⟩ := newP (aty := .char) X1 hx hZ (w8 hw) e1 (g := (mkF m 9 #[.val (.int n), .val (.int ca), .val (.int cb), .val (.int cc), .unset] [(.int (0 : Int32)), (.ref b1), (.ref b1)])) rfl (hb hby d1_9) rfl (by decide) (cap := 0) (by decide) (by decide) (by decide) (by decide)
    obtain ⟨b2, g2⟩ : ∃ z, z = h1.size := ⟨_, rfl⟩
    rw [← g2] at A2 st2
    have V2 : Arv Z h2 b2 k2 .char (0 : Int32) [] (.int (0 : Int32)) := (Arv.new A2 (by decide)).pad (pad_rep [] (.int (0 : Int32)) 0)
    refine Go.st (T' := T2) (g' := (mkF m 11 #[.val (.int n), .val (.int ca), .val (.int cb), .val (.int cc), .unset] [(.ref b2), (.ref b1), (.ref b1)])) (fun _ zk => st2 _ zk) ?_
    have xt3 : Ext h1 h2 := E2
    have f4 := A1.ext xt3
    have f5 := F1_coder.ext xt3
    have f6 := F1_value.ext xt3
    have cr8 := (chrE hA E1)
    have cr9 := (chrE (chrE hA E1) E2)
    refine Go.callSpS (y := (⟨"java/lang/String", "<init>", "([C)V"⟩ : MethodName)) (a := b1) X2 hx hZ hown e2 hEL cr9.1 hS (Nat.le_trans (Nat.zero_le _) (Nat.le_trans E1.1 E2.1)) rfl (w9 hw) (w10 hw) (w7 hw) (w11 hw) (by decide) (argsL := [(.ref b2)]) (rest := [(.ref b1)]) (W := 1) (rm_init1_0 l Z a0 hw [] b1 b2 k2 h2 n0 (Nat.le_trans Z0 (Nat.le_trans E1.1 E2.1)) f4 (Nat.le_trans Z0 (Nat.le_trans (Nat.le_refl _) (Nat.le_of_eq g1.symm))) f5 f6 V2) (allS (P := fun x => x < h2.size ∧ Safe Z EL0 s.vm h2 x) ⟨(Nat.lt_of_lt_of_le A1.lt E2.1), (Safe.ext E2 (cr8).1 (Safe.ext E1 (hA).1 (Safe.new (Nat.le_of_eq g1.symm))))⟩ all0) rfl (lenOf pd19 rfl) rfl (by rw [hml]; rfl) rfl (by show 2 * 0 + _ ≤ _; exact Nat.le_of_eq rfl) (by decide) (by decide) (by decide) (by decide) (hb hby d1_11) ?_
    intro v7 T7 h7 L7 X7 e7 q7 hS hZ hown cr7
    obtain ⟨hv7, Nf7, K7, C7, t7, k7, F7, V7⟩ := q7
    subst hv7
    have N7 := Fr.app N0 Nf7
    have ca10 := cr9.trans cr7
    show Go p.tables e below _ T7 (mkF m 14 #[.val (.int n), .val (.int ca), .val (.int cb), .val (.int cc), .unset] [(.ref b1)])
    have f11 := (f4.keep K7)
    have hsb : chs n ca cb cc = [] := by simp [chs, hc1]
    have SC : StrC Z h7 b1 (chs n ca cb cc).length (chs n ca cb cc) := by
      rw [hsb]
      exact ⟨0, [], Or.inl ⟨rfl, rfl, fun i q => absurd q (Nat.not_lt_zero _), fun i q => absurd q (Nat.not_lt_zero _)⟩, _, _, f11, C7, F7, V7⟩
    have xt12 : Ext h0 h7 := ((E1.tr E2).thenK K7 (allS (P := fun x => h0.size ≤ x) (Nat.le_of_eq g1.symm) all0))
    refine Go.retAS X7 hx hlk hS (Nat.le_refl _) ca10 hZ hEL hret rfl rfl (hb hby d1_14) (by decide) (by decide) e7 ?_
    exact ⟨_, rfl, N7, xt12, (Nat.le_trans (Nat.le_refl _) (Nat.le_of_eq g1.symm)), SC⟩
  · refine Go.st (T' := s₁) (g' := (mkF m 15 #[.val (.int n), .val (.int ca), .val (.int cb), .val (.int cc), .unset] [])) (fun _ zk => XS.ifYes X0.here hx rfl (pc0 := 1) (pc' := 15) rfl (hb hby d1_1) rfl ((if0 _ _).trans (feq hc1).2) (by decide) (by decide) zk) ?_
    refine Go.st (T' := s₁) (g' := (mkF m 16 #[.val (.int n), .val (.int ca), .val (.int cb), .val (.int cc), .unset] [(.int n)])) (fun _ zk => XS.iloadN X0.here hx rfl (hb hby d1_15) rfl zk) ?_
    refine Go.st (T' := s₁) (g' := (mkF m 17 #[.val (.int n), .val (.int ca), .val (.int cb), .val (.int cc), .unset] [(.int (1 : Int32)), (.int n)])) (fun _ zk => XS.iconst X0.here hx rfl (hb hby d1_16) zk) ?_
    by_cases hc17 : n = (1 : Int32)
    · refine Go.st (T' := s₁) (g' := (mkF m 20 #[.val (.int n), .val (.int ca), .val (.int cb), .val (.int cc), .unset] [])) (fun _ zk => XS.icmpNo X0.here hx rfl (hb hby d1_17) rfl (teq hc17).2 zk) ?_
      refine Go.st (T' := s₁) (g' := (mkF m 21 #[.val (.int n), .val (.int ca), .val (.int cb), .val (.int cc), .unset] [(.int (1 : Int32))])) (fun _ zk => XS.iconst X0.here hx rfl (hb hby d1_20) zk) ?_
      obtain ⟨T13, h13, k13, X13, e13, E13, A13, st13⟩ := newP (aty := .char) X0 hx hZ (w8 hw) e0 (g := (mkF m 21 #[.val (.int n), .val (.int ca), .val (.int cb), .val (.int cc), .unset] [(.int (1 : Int32))])) rfl (hb hby d1_21) rfl (by decide) (cap := 1) (by decide) (by decide) (by decide) (by decide)
      obtain ⟨b13, g13⟩ : ∃ z, z = h0.size := ⟨_, rfl⟩
      rw [← g13] at A13 st13
      have V13 : Arv Z h13 b13 k13 .char (1 : Int32) [(.int (0 : Int32))] (.int (0 : Int32)) := (Arv.new A13 (by decide)).pad (pad_rep [] (.int (0 : Int32)) 1)
      refine Go.st (T' := T13) (g' := (mkF m 23 #[.val (.int n), .val (.int ca), .val (.int cb), .val (.int cc), .unset] [(.ref b13)])) (fun _ zk => st13 _ zk) ?_
      refine Go.st (T' := T13) (g' := (mkF m 25 #[.val (.int n), .val (.int ca), .val (.int cb), .val (.int cc), .val (.ref b13)] [])) (fun _ zk => XS.astore X13.here hx rfl (hb hby d1_23) rfl rfl (l' := #[.val (.int n), .val (.int ca), .val (.int cb), .val (.int cc), .val (.ref b13)]) rfl zk) ?_
      refine Go.st (T' := T13) (g' := (mkF m 27 #[.val (.int n), .val (.int ca), .val (.int cb), .val (.int cc), .val (.ref b13)] [(.ref b13)])) (fun _ zk => XS.aload X13.here hx rfl (hb hby d1_25) rfl rfl zk) ?_
      refine Go.st (T' := T13) (g' := (mkF m 28 #[.val (.int n), .val (.int ca), .val (.int cb), .val (.int cc), .val (.ref b13)] [(.int (0 : Int32)), (.ref b13)])) (fun _ zk => XS.iconst X13.here hx rfl (hb hby d1_27) zk) ?_
      refine Go.st (T' := T13) (g' := (mkF m 29 #[.val (.int n), .val (.int ca), .val (.int cb), .val (.int cc), .val (.ref b13)] [(.int ca), (.int (0 : Int32)), (.ref b13)])) (fun _ zk => XS.iloadN X13.here hx rfl (hb hby d1_28) rfl zk) ?_
      obtain ⟨T14, h14, X14, e14, W14, V14, st14⟩ := stCV X13 hx hZ e13 V13 (j := (0 : Int32)) (i := 0) (by decide) rfl (Nat.le_of_ble_eq_true rfl) (g := (mkF m 29 #[.val (.int n), .val (.int ca), .val (.int cb), .val (.int cc), .val (.ref b13)] [(.int ca), (.int (0 : Int32)), (.ref b13)])) rfl rfl (hb hby d1_29)
      rw [nar_cid (x := ca) qca] at V14
      have V14' : Arv Z h14 b13 k13 .char (1 : Int32) [(.int ca)] (.int (0 : Int32)) := V14
      have N14 := Fr.snoc X14 N0 (Nat.le_trans Z0 (Nat.le_trans (Nat.le_refl _) (Nat.le_of_eq g13.symm)))
      refine Go.st (T' := T14) (g' := (mkF m 30 #[.val (.int n), .val (.int ca), .val (.int cb), .val (.int cc), .val (.ref b13)] [])) (fun _ zk => st14 _ zk) ?_
      obtain ⟨T15, h15, X15, e15, E15, A15, D15, -, st15⟩ := newO X14 hx hZ hown (w5 hw) (w6 hw) (w7 hw) e14 (g := (mkF m 30 #[.val (.int n), .val (.int ca), .val (.int cb), .val (.int cc), .val (.ref b13)] [])) rfl (hb hby d1_30) (by decide) (by decide)
      obtain ⟨b15, g15⟩ : ∃ z, z = h14.size := ⟨_, rfl⟩
      rw [← g15] at A15 D15 st15
      have F15_value : Fld Z h15 b15 "java/lang/String" "value" "[B" .null := D15 (Or.inr (w21 hw)) (ty := (.array .byte)) (by decide)
      have F15_coder : Fld Z h15 b15 "java/lang/String" "coder" "B" (.int (0 : Int32)) := D15 (Or.inr (w22 hw)) (ty := .byte) (by decide)
      refine Go.st (T' := T15) (g' := (mkF m 33 #[.val (.int n), .val (.int ca), .val (.int cb), .val (.int cc), .val (.ref b13)] [(.ref b15)])) (fun _ zk => st15 _ zk) ?_
      refine Go.st (T' := T15) (g' := (mkF m 34 #[.val (.int n), .val (.int ca), .val (.int cb), .val (.int cc), .val (.ref b13)] [(.ref b15), (.ref b15)])) (fun _ zk => XS.dup X15.here hx rfl (hb hby d1_33) rfl rfl zk) ?_
      refine Go.st (T' := T15) (g' := (mkF m 36 #[.val (.int n), .val (.int ca), .val (.int cb), .val (.int cc), .val (.ref b13)] [(.ref b13), (.ref b15), (.ref b15)])) (fun _ zk => XS.aload X15.here hx rfl (hb hby d1_34) rfl rfl zk) ?_
      have hrg : ∀ x ∈ [ca], 0 ≤ x.toInt ∧ x.toInt < 65536 := by
        simp only [List.forall_mem_cons]
        exact ⟨qca, fun _ q => nomatch q⟩
      have xt16 : Ext h14 h15 := E15
      have f17 := V14'.ext xt16
      have xt19 : Ext h0 h15 := ((E13.thenW W14 (Nat.le_of_eq g13.symm)).tr E15)
      have f20 := O0.ext xt19
      refine Go.callSp (y := (⟨"java/lang/String", "<init>", "([C)V"⟩ : MethodName)) (a := b15) X15 hx hZ hown e15 rfl (w9 hw) (w10 hw) (w7 hw) (w11 hw) (by decide) (argsL := [(.ref b13)]) (rest := [(.ref b15)]) (W := 1) (rm_init1W l Z a0 hw [] b15 b13 k13 [ca] 1 zc h15 n0 (Nat.le_trans Z0 (Nat.le_trans (Nat.le_trans E13.1 (Keep.of_wr W14).1) E15.1)) f20 A15 (Nat.le_trans Z0 (Nat.le_trans (Nat.le_trans E13.1 (Keep.of_wr W14).1) (Nat.le_of_eq g15.symm))) F15_coder F15_value f17 (by decide) rfl (by decide) (by decide) hrg CS hz UA UH UL) rfl (lenOf pd19 rfl) rfl (by rw [hml]; rfl) rfl (by show 2 * 0 + _ ≤ _; exact Nat.le_of_eq rfl) (by decide) (by decide) (by decide) (by decide) (hb hby d1_36) ?_
      intro v18 T18 h18 L18 X18 e18 q18
      obtain ⟨hv18, Nf18, K18, S18⟩ := q18
      subst hv18
      have N18 := Fr.app N14 Nf18
      have hsb : chs n ca cb cc = [ca] := by simp [chs, hc1, hc17]
      have SC : StrC Z h18 b15 (chs n ca cb cc).length (chs n ca cb cc) := by
        rw [hsb]
        exact S18
      show Go p.tables e below _ T18 (mkF m 39 #[.val (.int n), .val (.int ca), .val (.int cb), .val (.int cc), .val (.ref b13)] [(.ref b15)])
      have xt21 : Ext h0 h18 := (xt19.thenK K18 (allS (P := fun x => h0.size ≤ x) (Nat.le_trans (Nat.le_trans E13.1 (Keep.of_wr W14).1) (Nat.le_of_eq g15.symm)) all0))
      have cr22 := (chrW (chrE hA E13) W14 (Safe.ext E13 (hA).1 (Safe.new (Nat.le_of_eq g13.symm))))
      have cr23 := (chrK (chrE (chrW (chrE hA E13) W14 (Safe.ext E13 (hA).1 (Safe.new (Nat.le_of_eq g13.symm)))) E15) K18 (sfS (Safe.ext E15 (cr22).1 (Safe.new (Nat.le_of_eq g15.symm))) sf0))
      refine Go.retAS X18 hx hlk hS (Nat.le_trans (Nat.zero_le _) (Nat.le_trans (Nat.le_trans (Nat.le_trans E13.1 (Keep.of_wr W14).1) E15.1) K18.1)) cr23 hZ hEL hret rfl rfl (hb hby d1_39) (by decide) (by decide) e18 ?_
      exact ⟨_, rfl, N18, xt21, (Nat.le_trans (Nat.le_trans E13.1 (Keep.of_wr W14).1) (Nat.le_of_eq g15.symm)), SC⟩
    · refine Go.st (T' := s₁) (g' := (mkF m 40 #[.val (.int n), .val (.int ca), .val (.int cb), .val (.int cc), .unset] [])) (fun _ zk => XS.icmpYes X0.here hx rfl (pc0 := 17) (pc' := 40) rfl (hb hby d1_17) rfl (feq hc17).2 (by decide) (by decide) zk) ?_
      refine Go.st (T' := s₁) (g' := (mkF m 41 #[.val (.int n), .val (.int ca), .val (.int cb), .val (.int cc), .unset] [(.int n)])) (fun _ zk => XS.iloadN X0.here hx rfl (hb hby d1_40) rfl zk) ?_
      refine Go.st (T' := s₁) (g' := (mkF m 42 #[.val (.int n), .val (.int ca), .val (.int cb), .val (.int cc), .unset] [(.int (2 : Int32)), (.int n)])) (fun _ zk => XS.iconst X0.here hx rfl (hb hby d1_41) zk) ?_
      by_cases hc42 : n = (2 : Int32)
      · refine Go.st (T' := s₁) (g' := (mkF m 45 #[.val (.int n), .val (.int ca), .val (.int cb), .val (.int cc), .unset] [])) (fun _ zk => XS.icmpNo X0.here hx rfl (hb hby d1_42) rfl (teq hc42).2 zk) ?_
        refine Go.st (T' := s₁) (g' := (mkF m 46 #[.val (.int n), .val (.int ca), .val (.int cb), .val (.int cc), .unset] [(.int (2 : Int32))])) (fun _ zk => XS.iconst X0.here hx rfl (hb hby d1_45) zk) ?_
        obtain ⟨T24, h24, k24, X24, e24, E24, A24, st24⟩ := newP (aty := .char) X0 hx hZ (w8 hw) e0 (g := (mkF m 46 #[.val (.int n), .val (.int ca), .val (.int cb), .val (.int cc), .unset] [(.int (2 : Int32))])) rfl (hb hby d1_46) rfl (by decide) (cap := 2) (by decide) (by decide) (by decide) (by decide)
        obtain ⟨b24, g24⟩ : ∃ z, z = h0.size := ⟨_, rfl⟩
        rw [← g24] at A24 st24
        have V24 : Arv Z h24 b24 k24 .char (2 : Int32) [(.int (0 : Int32)), (.int (0 : Int32))] (.int (0 : Int32)) := (Arv.new A24 (by decide)).pad (pad_rep [] (.int (0 : Int32)) 2)
        refine Go.st (T' := T24) (g' := (mkF m 48 #[.val (.int n), .val (.int ca), .val (.int cb), .val (.int cc), .unset] [(.ref b24)])) (fun _ zk => st24 _ zk) ?_
        refine Go.st (T' := T24) (g' := (mkF m 50 #[.val (.int n), .val (.int ca), .val (.int cb), .val (.int cc), .val (.ref b24)] [])) (fun _ zk => XS.astore X24.here hx rfl (hb hby d1_48) rfl rfl (l' := #[.val (.int n), .val (.int ca), .val (.int cb), .val (.int cc), .val (.ref b24)]) rfl zk) ?_
        refine Go.st (T' := T24) (g' := (mkF m 52 #[.val (.int n), .val (.int ca), .val (.int cb), .val (.int cc), .val (.ref b24)] [(.ref b24)])) (fun _ zk => XS.aload X24.here hx rfl (hb hby d1_50) rfl rfl zk) ?_
        refine Go.st (T' := T24) (g' := (mkF m 53 #[.val (.int n), .val (.int ca), .val (.int cb), .val (.int cc), .val (.ref b24)] [(.int (0 : Int32)), (.ref b24)])) (fun _ zk => XS.iconst X24.here hx rfl (hb hby d1_52) zk) ?_
        refine Go.st (T' := T24) (g' := (mkF m 54 #[.val (.int n), .val (.int ca), .val (.int cb), .val (.int cc), .val (.ref b24)] [(.int ca), (.int (0 : Int32)), (.ref b24)])) (fun _ zk => XS.iloadN X24.here hx rfl (hb hby d1_53) rfl zk) ?_
        obtain ⟨T25, h25, X25, e25, W25, V25, st25⟩ := stCV X24 hx hZ e24 V24 (j := (0 : Int32)) (i := 0) (by decide) rfl (Nat.le_of_ble_eq_true rfl) (g := (mkF m 54 #[.val (.int n), .val (.int ca), .val (.int cb), .val (.int cc), .val (.ref b24)] [(.int ca), (.int (0 : Int32)), (.ref b24)])) rfl rfl (hb hby d1_54)
        rw [nar_cid (x := ca) qca] at V25
        have V25' : Arv Z h25 b24 k24 .char (2 : Int32) [(.int ca), (.int (0 : Int32))] (.int (0 : Int32)) := V25
        have N25 := Fr.snoc X25 N0 (Nat.le_trans Z0 (Nat.le_trans (Nat.le_refl _) (Nat.le_of_eq g24.symm)))
        refine Go.st (T' := T25) (g' := (mkF m 55 #[.val (.int n), .val (.int ca), .val (.int cb), .val (.int cc), .val (.ref b24)] [])) (fun _ zk => st25 _ zk) ?_
        refine Go.st (T' := T25) (g' := (mkF m 57 #[.val (.int n), .val (.int ca), .val (.int cb), .val (.int cc), .val (.ref b24)] [(.ref b24)])) (fun _ zk => XS.aload X25.here hx rfl (hb hby d1_55) rfl rfl zk) ?_
        refine Go.st (T' := T25) (g' := (mkF m 58 #[.val (.int n), .val (.int ca), .val (.int cb), .val (.int cc), .val (.ref b24)] [(.int (1 : Int32)), (.ref b24)])) (fun _ zk => XS.iconst X25.here hx rfl (hb hby d1_57) zk) ?_
        refine Go.st (T' := T25) (g' := (mkF m 59 #[.val (.int n), .val (.int ca), .val (.int cb), .val (.int cc), .val (.ref b24)] [(.int cb), (.int (1 : Int32)), (.ref b24)])) (fun _ zk => XS.iloadN X25.here hx rfl (hb hby d1_58) rfl zk) ?_
        obtain ⟨T26, h26, X26, e26, W26, V26, st26⟩ := stCV X25 hx hZ e25 V25' (j := (1 : Int32)) (i := 1) (by decide) rfl (Nat.le_of_ble_eq_true rfl) (g := (mkF m 59 #[.val (.int n), .val (.int ca), .val (.int cb), .val (.int cc), .val (.ref b24)] [(.int cb), (.int (1 : Int32)), (.ref b24)])) rfl rfl (hb hby d1_59)
        rw [nar_cid (x := cb) qcb] at V26
        have V26' : Arv Z h26 b24 k24 .char (2 : Int32) [(.int ca), (.int cb)] (.int (0 : Int32)) := V26
        have N26 := Fr.snoc X26 N25 (Nat.le_trans Z0 (Nat.le_trans (Nat.le_refl _) (Nat.le_of_eq g24.symm)))
        refine Go.st (T' := T26) (g' := (mkF m 60 #[.val (.int n), .val (.int ca), .val (.int cb), .val (.int cc), .val (.ref b24)] [])) (fun _ zk => st26 _ zk) ?_
        obtain ⟨T27, h27, X27, e27, E27, A27, D27, -, st27⟩ := newO X26 hx hZ hown (w5 hw) (w6 hw) (w7 hw) e26 (g := (mkF m 60 #[.val (.int n), .val (.int ca), .val (.int cb), .val (.int cc), .val (.ref b24)] [])) rfl (hb hby d1_60) (by decide) (by decide)
        obtain ⟨b27, g27⟩ : ∃ z, z = h26.size := ⟨_, rfl⟩
        rw [← g27] at A27 D27 st27
        have F27_value : Fld Z h27 b27 "java/lang/String" "value" "[B" .null := D27 (Or.inr (w21 hw)) (ty := (.array .byte)) (by decide)
        have F27_coder : Fld Z h27 b27 "java/lang/String" "coder" "B" (.int (0 : Int32)) := D27 (Or.inr (w22 hw)) (ty := .byte) (by decide)
        refine Go.st (T' := T27) (g' := (mkF m 63 #[.val (.int n), .val (.int ca), .val (.int cb), .val (.int cc), .val (.ref b24)] [(.ref b27)])) (fun _ zk => st27 _ zk) ?_
        refine Go.st (T' := T27) (g' := (mkF m 64 #[.val (.int n), .val (.int ca), .val (.int cb), .val (.int cc), .val (.ref b24)] [(.ref b27), (.ref b27)])) (fun _ zk => XS.dup X27.here hx rfl (hb hby d1_63) rfl rfl zk) ?_
        refine Go.st (T' := T27) (g' := (mkF m 66 #[.val (.int n), .val (.int ca), .val (.int cb), .val (.int cc), .val (.ref b24)] [(.ref b24), (.ref b27), (.ref b27)])) (fun _ zk => XS.aload X27.here hx rfl (hb hby d1_64) rfl rfl zk) ?_
        have hrg : ∀ x ∈ [ca, cb], 0 ≤ x.toInt ∧ x.toInt < 65536 := by
          simp only [List.forall_mem_cons]
          exact ⟨qca, qcb, fun _ q => nomatch q⟩
        have xt28 : Ext h26 h27 := E27
        have f29 := V26'.ext xt28
        have xt31 : Ext h0 h27 := (((E24.thenW W25 (Nat.le_of_eq g24.symm)).thenW W26 (Nat.le_of_eq g24.symm)).tr E27)
        have f32 := O0.ext xt31
        refine Go.callSp (y := (⟨"java/lang/String", "<init>", "([C)V"⟩ : MethodName)) (a := b27) X27 hx hZ hown e27 rfl (w9 hw) (w10 hw) (w7 hw) (w11 hw) (by decide) (argsL := [(.ref b24)]) (rest := [(.ref b27)]) (W := 1) (rm_init1W l Z a0 hw [] b27 b24 k24 [ca, cb] 2 zc h27 n0 (Nat.le_trans Z0 (Nat.le_trans (Nat.le_trans (Nat.le_trans E24.1 (Keep.of_wr W25).1) (Keep.of_wr W26).1) E27.1)) f32 A27 (Nat.le_trans Z0 (Nat.le_trans (Nat.le_trans (Nat.le_trans E24.1 (Keep.of_wr W25).1) (Keep.of_wr W26).1) (Nat.le_of_eq g27.symm))) F27_coder F27_value f29 (by decide) rfl (by decide) (by decide) hrg CS hz UA UH UL) rfl (lenOf pd19 rfl) rfl (by rw [hml]; rfl) rfl (by show 2 * 0 + _ ≤ _; exact Nat.le_of_eq rfl) (by decide) (by decide) (by decide) (by decide) (hb hby d1_66) ?_
        intro v30 T30 h30 L30 X30 e30 q30
        obtain ⟨hv30, Nf30, K30, S30⟩ := q30
        subst hv30
        have N30 := Fr.app N26 Nf30
        have hsb : chs n ca cb cc = [ca, cb] := by simp [chs, hc1, hc17, hc42]
        have SC : StrC Z h30 b27 (chs n ca cb cc).length (chs n ca cb cc) := by
          rw [hsb]
          exact S30
        show Go p.tables e below _ T30 (mkF m 69 #[.val (.int n), .val (.int ca), .val (.int cb), .val (.int cc), .val (.ref b24)] [(.ref b27)])
        have xt33 : Ext h0 h30 := (xt31.thenK K30 (allS (P := fun x => h0.size ≤ x) (Nat.le_trans (Nat.le_trans (Nat.le_trans E24.1 (Keep.of_wr W25).1) (Keep.of_wr W26).1) (Nat.le_of_eq g27.symm)) all0))
        have cr34 := (chrE hA E24)
        have cr35 := (chrW (chrW (chrE hA E24) W25 (Safe.ext E24 (hA).1 (Safe.new (Nat.le_of_eq g24.symm)))) W26 (Safe.wr W25 (Safe.ext E24 (hA).1 (Safe.new (Nat.le_of_eq g24.symm))) (cr34).1 (Safe.ext E24 (hA).1 (Safe.new (Nat.le_of_eq g24.symm)))))
        have cr36 := (chrK (chrE (chrW (chrW (chrE hA E24) W25 (Safe.ext E24 (hA).1 (Safe.new (Nat.le_of_eq g24.symm)))) W26 (Safe.wr W25 (Safe.ext E24 (hA).1 (Safe.new (Nat.le_of_eq g24.symm))) (cr34).1 (Safe.ext E24 (hA).1 (Safe.new (Nat.le_of_eq g24.symm))))) E27) K30 (sfS (Safe.ext E27 (cr35).1 (Safe.new (Nat.le_of_eq g27.symm))) sf0))
        refine Go.retAS X30 hx hlk hS (Nat.le_trans (Nat.zero_le _) (Nat.le_trans (Nat.le_trans (Nat.le_trans (Nat.le_trans E24.1 (Keep.of_wr W25).1) (Keep.of_wr W26).1) E27.1) K30.1)) cr36 hZ hEL hret rfl rfl (hb hby d1_69) (by decide) (by decide) e30 ?_
        exact ⟨_, rfl, N30, xt33, (Nat.le_trans (Nat.le_trans (Nat.le_trans E24.1 (Keep.of_wr W25).1) (Keep.of_wr W26).1) (Nat.le_of_eq g27.symm)), SC⟩
      · refine Go.st (T' := s₁) (g' := (mkF m 70 #[.val (.int n), .val (.int ca), .val (.int cb), .val (.int cc), .unset] [])) (fun _ zk => XS.icmpYes X0.here hx rfl (pc0 := 42) (pc' := 70) rfl (hb hby d1_42) rfl (feq hc42).2 (by decide) (by decide) zk) ?_
        refine Go.st (T' := s₁) (g' := (mkF m 71 #[.val (.int n), .val (.int ca), .val (.int cb), .val (.int cc), .unset] [(.int (3 : Int32))])) (fun _ zk => XS.iconst X0.here hx rfl (hb hby d1_70) zk) ?_
        obtain ⟨T37, h37, k37, X37, e37, E37, A37, st37⟩ := newP (aty := .char) X0 hx hZ (w8 hw) e0 (g := (mkF m 71 #[.val (.int n), .val (.int ca), .val (.int cb), .val (.int cc), .unset] [(.int (3 : Int32))])) rfl (hb hby d1_71) rfl (by decide) (cap := 3) (by decide) (by decide) (by decide) (by decide)
        obtain ⟨b37, g37⟩ : ∃ z, z = h0.size := ⟨_, rfl⟩
        rw [← g37] at A37 st37
        have V37 : Arv Z h37 b37 k37 .char (3 : Int32) [(.int (0 : Int32)), (.int (0 : Int32)), (.int (0 : Int32))] (.int (0 : Int32)) := (Arv.new A37 (by decide)).pad (pad_rep [] (.int (0 : Int32)) 3)
        refine Go.st (T' := T37) (g' := (mkF m 73 #[.val (.int n), .val (.int ca), .val (.int cb), .val (.int cc), .unset] [(.ref b37)])) (fun _ zk => st37 _ zk) ?_
        refine Go.st (T' := T37) (g' := (mkF m 75 #[.val (.int n), .val (.int ca), .val (.int cb), .val (.int cc), .val (.ref b37)] [])) (fun _ zk => XS.astore X37.here hx rfl (hb hby d1_73) rfl rfl (l' := #[.val (.int n), .val (.int ca), .val (.int cb), .val (.int cc), .val (.ref b37)]) rfl zk) ?_
        refine Go.st (T' := T37) (g' := (mkF m 77 #[.val (.int n), .val (.int ca), .val (.int cb), .val (.int cc), .val (.ref b37)] [(.ref b37)])) (fun _ zk => XS.aload X37.here hx rfl (hb hby d1_75) rfl rfl zk) ?_
        refine Go.st (T' := T37) (g' := (mkF m 78 #[.val (.int n), .val (.int ca), .val (.int cb), .val (.int cc), .val (.ref b37)] [(.int (0 : Int32)), (.ref b37)])) (fun _ zk => XS.iconst X37.here hx rfl (hb hby d1_77) zk) ?_
        refine Go.st (T' := T37) (g' := (mkF m 79 #[.val (.int n), .val (.int ca), .val (.int cb), .val (.int cc), .val (.ref b37)] [(.int ca), (.int (0 : Int32)), (.ref b37)])) (fun _ zk => XS.iloadN X37.here hx rfl (hb hby d1_78) rfl zk) ?_
        obtain ⟨T38, h38, X38, e38, W38, V38, st38⟩ := stCV X37 hx hZ e37 V37 (j := (0 : Int32)) (i := 0) (by decide) rfl (Nat.le_of_ble_eq_true rfl) (g := (mkF m 79 #[.val (.int n), .val (.int ca), .val (.int cb), .val (.int cc), .val (.ref b37)] [(.int ca), (.int (0 : Int32)), (.ref b37)])) rfl rfl (hb hby d1_79)
        rw [nar_cid (x := ca) qca] at V38
        have V38' : Arv Z h38 b37 k37 .char (3 : Int32) [(.int ca), (.int (0 : Int32)), (.int (0 : Int32))] (.int (0 : Int32)) := V38
        have N38 := Fr.snoc X38 N0 (Nat.le_trans Z0 (Nat.le_trans (Nat.le_refl _) (Nat.le_of_eq g37.symm)))
        refine Go.st (T' := T38) (g' := (mkF m 80 #[.val (.int n), .val (.int ca), .val (.int cb), .val (.int cc), .val (.ref b37)] [])) (fun _ zk => st38 _ zk) ?_
        refine Go.st (T' := T38) (g' := (mkF m 82 #[.val (.int n), .val (.int ca), .val (.int cb), .val (.int cc), .val (.ref b37)] [(.ref b37)])) (fun _ zk => XS.aload X38.here hx rfl (hb hby d1_80) rfl rfl zk) ?_
        refine Go.st (T' := T38) (g' := (mkF m 83 #[.val (.int n), .val (.int ca), .val (.int cb), .val (.int cc), .val (.ref b37)] [(.int (1 : Int32)), (.ref b37)])) (fun _ zk => XS.iconst X38.here hx rfl (hb hby d1_82) zk) ?_
        refine Go.st (T' := T38) (g' := (mkF m 84 #[.val (.int n), .val (.int ca), .val (.int cb), .val (.int cc), .val (.ref b37)] [(.int cb), (.int (1 : Int32)), (.ref b37)])) (fun _ zk => XS.iloadN X38.here hx rfl (hb hby d1_83) rfl zk) ?_
        obtain ⟨T39, h39, X39, e39, W39, V39, st39⟩ := stCV X38 hx hZ e38 V38' (j := (1 : Int32)) (i := 1) (by decide) rfl (Nat.le_of_ble_eq_true rfl) (g := (mkF m 84 #[.val (.int n), .val (.int ca), .val (.int cb), .val (.int cc), .val (.ref b37)] [(.int cb), (.int (1 : Int32)), (.ref b37)])) rfl rfl (hb hby d1_84)
        rw [nar_cid (x := cb) qcb] at V39
        have V39' : Arv Z h39 b37 k37 .char (3 : Int32) [(.int ca), (.int cb), (.int (0 : Int32))] (.int (0 : Int32)) := V39
        have N39 := Fr.snoc X39 N38 (Nat.le_trans Z0 (Nat.le_trans (Nat.le_refl _) (Nat.le_of_eq g37.symm)))
        refine Go.st (T' := T39) (g' := (mkF m 85 #[.val (.int n), .val (.int ca), .val (.int cb), .val (.int cc), .val (.ref b37)] [])) (fun _ zk => st39 _ zk) ?_
        refine Go.st (T' := T39) (g' := (mkF m 87 #[.val (.int n), .val (.int ca), .val (.int cb), .val (.int cc), .val (.ref b37)] [(.ref b37)])) (fun _ zk => XS.aload X39.here hx rfl (hb hby d1_85) rfl rfl zk) ?_
        refine Go.st (T' := T39) (g' := (mkF m 88 #[.val (.int n), .val (.int ca), .val (.int cb), .val (.int cc), .val (.ref b37)] [(.int (2 : Int32)), (.ref b37)])) (fun _ zk => XS.iconst X39.here hx rfl (hb hby d1_87) zk) ?_
        refine Go.st (T' := T39) (g' := (mkF m 89 #[.val (.int n), .val (.int ca), .val (.int cb), .val (.int cc), .val (.ref b37)] [(.int cc), (.int (2 : Int32)), (.ref b37)])) (fun _ zk => XS.iloadN X39.here hx rfl (hb hby d1_88) rfl zk) ?_
        obtain ⟨T40, h40, X40, e40, W40, V40, st40⟩ := stCV X39 hx hZ e39 V39' (j := (2 : Int32)) (i := 2) (by decide) rfl (Nat.le_of_ble_eq_true rfl) (g := (mkF m 89 #[.val (.int n), .val (.int ca), .val (.int cb), .val (.int cc), .val (.ref b37)] [(.int cc), (.int (2 : Int32)), (.ref b37)])) rfl rfl (hb hby d1_89)
        rw [nar_cid (x := cc) qcc] at V40
        have V40' : Arv Z h40 b37 k37 .char (3 : Int32) [(.int ca), (.int cb), (.int cc)] (.int (0 : Int32)) := V40
        have N40 := Fr.snoc X40 N39 (Nat.le_trans Z0 (Nat.le_trans (Nat.le_refl _) (Nat.le_of_eq g37.symm)))
        refine Go.st (T' := T40) (g' := (mkF m 90 #[.val (.int n), .val (.int ca), .val (.int cb), .val (.int cc), .val (.ref b37)] [])) (fun _ zk => st40 _ zk) ?_
        obtain ⟨T41, h41, X41, e41, E41, A41, D41, -, st41⟩ := newO X40 hx hZ hown (w5 hw) (w6 hw) (w7 hw) e40 (g := (mkF m 90 #[.val (.int n), .val (.int ca), .val (.int cb), .val (.int cc), .val (.ref b37)] [])) rfl (hb hby d1_90) (by decide) (by decide)
        obtain ⟨b41, g41⟩ : ∃ z, z = h40.size := ⟨_, rfl⟩
        rw [← g41] at A41 D41 st41
        have F41_value : Fld Z h41 b41 "java/lang/String" "value" "[B" .null := D41 (Or.inr (w21 hw)) (ty := (.array .byte)) (by decide)
        have F41_coder : Fld Z h41 b41 "java/lang/String" "coder" "B" (.int (0 : Int32)) := D41 (Or.inr (w22 hw)) (ty := .byte) (by decide)
        refine Go.st (T' := T41) (g' := (mkF m 93 #[.val (.int n), .val (.int ca), .val (.int cb), .val (.int cc), .val (.ref b37)] [(.ref b41)])) (fun _ zk => st41 _ zk) ?_
        refine Go.st (T' := T41) (g' := (mkF m 94 #[.val (.int n), .val (.int ca), .val (.int cb), .val (.int cc), .val (.ref b37)] [(.ref b41), (.ref b41)])) (fun _ zk => XS.dup X41.here hx rfl (hb hby d1_93) rfl rfl zk) ?_
        refine Go.st (T' := T41) (g' := (mkF m 96 #[.val (.int n), .val (.int ca), .val (.int cb), .val (.int cc), .val (.ref b37)] [(.ref b37), (.ref b41), (.ref b41)])) (fun _ zk => XS.aload X41.here hx rfl (hb hby d1_94) rfl rfl zk) ?_
        have hrg : ∀ x ∈ [ca, cb, cc], 0 ≤ x.toInt ∧ x.toInt < 65536 := by
          simp only [List.forall_mem_cons]
          exact ⟨qca, qcb, qcc, fun _ q => nomatch q⟩
        have xt42 : Ext h40 h41 := E41
        have f43 := V40'.ext xt42
        have xt45 : Ext h0 h41 := ((((E37.thenW W38 (Nat.le_of_eq g37.symm)).thenW W39 (Nat.le_of_eq g37.symm)).thenW W40 (Nat.le_of_eq g37.symm)).tr E41)
        have f46 := O0.ext xt45
        refine Go.callSp (y := (⟨"java/lang/String", "<init>", "([C)V"⟩ : MethodName)) (a := b41) X41 hx hZ hown e41 rfl (w9 hw) (w10 hw) (w7 hw) (w11 hw) (by decide) (argsL := [(.ref b37)]) (rest := [(.ref b41)]) (W := 1) (rm_init1W l Z a0 hw [] b41 b37 k37 [ca, cb, cc] 3 zc h41 n0 (Nat.le_trans Z0 (Nat.le_trans (Nat.le_trans (Nat.le_trans (Nat.le_trans E37.1 (Keep.of_wr W38).1) (Keep.of_wr W39).1) (Keep.of_wr W40).1) E41.1)) f46 A41 (Nat.le_trans Z0 (Nat.le_trans (Nat.le_trans (Nat.le_trans (Nat.le_trans E37.1 (Keep.of_wr W38).1) (Keep.of_wr W39).1) (Keep.of_wr W40).1) (Nat.le_of_eq g41.symm))) F41_coder F41_value f43 (by decide) rfl (by decide) (by decide) hrg CS hz UA UH UL) rfl (lenOf pd19 rfl) rfl (by rw [hml]; rfl) rfl (by show 2 * 0 + _ ≤ _; exact Nat.le_of_eq rfl) (by decide) (by decide) (by decide) (by decide) (hb hby d1_96) ?_
        intro v44 T44 h44 L44 X44 e44 q44
        obtain ⟨hv44, Nf44, K44, S44⟩ := q44
        subst hv44
        have N44 := Fr.app N40 Nf44
        have hsb : chs n ca cb cc = [ca, cb, cc] := by simp [chs, hc1, hc17, hc42]
        have SC : StrC Z h44 b41 (chs n ca cb cc).length (chs n ca cb cc) := by
          rw [hsb]
          exact S44
        show Go p.tables e below _ T44 (mkF m 99 #[.val (.int n), .val (.int ca), .val (.int cb), .val (.int cc), .val (.ref b37)] [(.ref b41)])
        have xt47 : Ext h0 h44 := (xt45.thenK K44 (allS (P := fun x => h0.size ≤ x) (Nat.le_trans (Nat.le_trans (Nat.le_trans (Nat.le_trans E37.1 (Keep.of_wr W38).1) (Keep.of_wr W39).1) (Keep.of_wr W40).1) (Nat.le_of_eq g41.symm)) all0))
        have cr48 := (chrE hA E37)
        have cr49 := (chrW (chrE hA E37) W38 (Safe.ext E37 (hA).1 (Safe.new (Nat.le_of_eq g37.symm))))
        have cr50 := (chrW (chrW (chrW (chrE hA E37) W38 (Safe.ext E37 (hA).1 (Safe.new (Nat.le_of_eq g37.symm)))) W39 (Safe.wr W38 (Safe.ext E37 (hA).1 (Safe.new (Nat.le_of_eq g37.symm))) (cr48).1 (Safe.ext E37 (hA).1 (Safe.new (Nat.le_of_eq g37.symm))))) W40 (Safe.wr W39 (Safe.wr W38 (Safe.ext E37 (hA).1 (Safe.new (Nat.le_of_eq g37.symm))) (cr48).1 (Safe.ext E37 (hA).1 (Safe.new (Nat.le_of_eq g37.symm)))) (cr49).1 (Safe.wr W38 (Safe.ext E37 (hA).1 (Safe.new (Nat.le_of_eq g37.symm))) (cr48).1 (Safe.ext E37 (hA).1 (Safe.new (Nat.le_of_eq g37.symm))))))
        have cr51 := (chrK (chrE (chrW (chrW (chrW (chrE hA E37) W38 (Safe.ext E37 (hA).1 (Safe.new (Nat.le_of_eq g37.symm)))) W39 (Safe.wr W38 (Safe.ext E37 (hA).1 (Safe.new (Nat.le_of_eq g37.symm))) (cr48).1 (Safe.ext E37 (hA).1 (Safe.new (Nat.le_of_eq g37.symm))))) W40 (Safe.wr W39 (Safe.wr W38 (Safe.ext E37 (hA).1 (Safe.new (Nat.le_of_eq g37.symm))) (cr48).1 (Safe.ext E37 (hA).1 (Safe.new (Nat.le_of_eq g37.symm)))) (cr49).1 (Safe.wr W38 (Safe.ext E37 (hA).1 (Safe.new (Nat.le_of_eq g37.symm))) (cr48).1 (Safe.ext E37 (hA).1 (Safe.new (Nat.le_of_eq g37.symm)))))) E41) K44 (sfS (Safe.ext E41 (cr50).1 (Safe.new (Nat.le_of_eq g41.symm))) sf0))
        refine Go.retAS X44 hx hlk hS (Nat.le_trans (Nat.zero_le _) (Nat.le_trans (Nat.le_trans (Nat.le_trans (Nat.le_trans (Nat.le_trans E37.1 (Keep.of_wr W38).1) (Keep.of_wr W39).1) (Keep.of_wr W40).1) E41.1) K44.1)) cr51 hZ hEL hret rfl rfl (hb hby d1_99) (by decide) (by decide) e44 ?_
        exact ⟨_, rfl, N44, xt47, (Nat.le_trans (Nat.le_trans (Nat.le_trans (Nat.le_trans E37.1 (Keep.of_wr W38).1) (Keep.of_wr W39).1) (Keep.of_wr W40).1) (Nat.le_of_eq g41.symm)), SC⟩
theorem d7_0 : decode prog_1_method_2_code 0 = .ok (.aload_n 0, 1) := by decide +kernel
theorem d7_1 : decode prog_1_method_2_code 1 = .ok (.invokespecial 7, 3) := by decide +kernel
theorem w45 {a0 : Array Value} {Z : State} (hw : ∀ d ∈ tables_1, d.before a0 Z = true) : ((Jvm.Cond.methodLink "com/example/payment_retry_queue/paymentretryqueue/AttemptAnswer" (7 : Nat) ({ cls := "java/lang/Object", name := "<init>", desc := "()V" } : Jvm.MethodName))).before a0 Z = true := hw _ (List.mem_of_getElem? (i := 45) rfl)
theorem d7_4 : decode prog_1_method_2_code 4 = .ok (.aload_n 0, 1) := by decide +kernel
theorem d7_5 : decode prog_1_method_2_code 5 = .ok (.aload_n 1, 1) := by decide +kernel
theorem d7_6 : decode prog_1_method_2_code 6 = .ok (.putfield 12, 3) := by decide +kernel
theorem w46 {a0 : Array Value} {Z : State} (hw : ∀ d ∈ tables_1, d.before a0 Z = true) : ((Jvm.Cond.fieldLink "com/example/payment_retry_queue/paymentretryqueue/AttemptAnswer" (12 : Nat) "com/example/payment_retry_queue/paymentretryqueue/AttemptAnswer" "kind" "Lcom/example/payment_retry_queue/paymentretryqueue/AttemptAnswer$Kind;")).before a0 Z = true := hw _ (List.mem_of_getElem? (i := 46) rfl)
theorem w32 {a0 : Array Value} {Z : State} (hw : ∀ d ∈ tables_1, d.before a0 Z = true) : ((Jvm.Cond.instantiable "com/example/payment_retry_queue/paymentretryqueue/AttemptAnswer" (3 : Nat))).before a0 Z = true := hw _ (List.mem_of_getElem? (i := 32) rfl)
theorem w47 {a0 : Array Value} {Z : State} (hw : ∀ d ∈ tables_1, d.before a0 Z = true) : ((Jvm.Cond.laysFinal "com/example/payment_retry_queue/paymentretryqueue/AttemptAnswer" "com/example/payment_retry_queue/paymentretryqueue/AttemptAnswer" "kind" "Lcom/example/payment_retry_queue/paymentretryqueue/AttemptAnswer$Kind;")).before a0 Z = true := hw _ (List.mem_of_getElem? (i := 47) rfl)
theorem d7_9 : decode prog_1_method_2_code 9 = .ok (.aload_n 0, 1) := by decide +kernel
theorem d7_10 : decode prog_1_method_2_code 10 = .ok (.aload_n 2, 1) := by decide +kernel
theorem d7_11 : decode prog_1_method_2_code 11 = .ok (.putfield 16, 3) := by decide +kernel
theorem w48 {a0 : Array Value} {Z : State} (hw : ∀ d ∈ tables_1, d.before a0 Z = true) : ((Jvm.Cond.fieldLink "com/example/payment_retry_queue/paymentretryqueue/AttemptAnswer" (16 : Nat) "com/example/payment_retry_queue/paymentretryqueue/AttemptAnswer" "reference" "Ljava/lang/String;")).before a0 Z = true := hw _ (List.mem_of_getElem? (i := 48) rfl)
theorem w49 {a0 : Array Value} {Z : State} (hw : ∀ d ∈ tables_1, d.before a0 Z = true) : ((Jvm.Cond.laysFinal "com/example/payment_retry_queue/paymentretryqueue/AttemptAnswer" "com/example/payment_retry_queue/paymentretryqueue/AttemptAnswer" "reference" "Ljava/lang/String;")).before a0 Z = true := hw _ (List.mem_of_getElem? (i := 49) rfl)
theorem d7_14 : decode prog_1_method_2_code 14 = .ok (.aload_n 0, 1) := by decide +kernel
theorem d7_15 : decode prog_1_method_2_code 15 = .ok (.aload_n 3, 1) := by decide +kernel
theorem d7_16 : decode prog_1_method_2_code 16 = .ok (.putfield 20, 3) := by decide +kernel
theorem w50 {a0 : Array Value} {Z : State} (hw : ∀ d ∈ tables_1, d.before a0 Z = true) : ((Jvm.Cond.fieldLink "com/example/payment_retry_queue/paymentretryqueue/AttemptAnswer" (20 : Nat) "com/example/payment_retry_queue/paymentretryqueue/AttemptAnswer" "retryAfter" "Ljava/time/Duration;")).before a0 Z = true := hw _ (List.mem_of_getElem? (i := 50) rfl)
theorem w51 {a0 : Array Value} {Z : State} (hw : ∀ d ∈ tables_1, d.before a0 Z = true) : ((Jvm.Cond.laysFinal "com/example/payment_retry_queue/paymentretryqueue/AttemptAnswer" "com/example/payment_retry_queue/paymentretryqueue/AttemptAnswer" "retryAfter" "Ljava/time/Duration;")).before a0 Z = true := hw _ (List.mem_of_getElem? (i := 51) rfl)
theorem d7_19 : decode prog_1_method_2_code 19 = .ok (.return_, 1) := by decide +kernel
def rr_aaInit : Room := { frames := 1, cells := 0, slots := 0, locals := 12 }
theorem pn21 : plainName "com/example/payment_retry_queue/paymentretryqueue/AttemptAnswer" = true := by first | (simp [plainName, overriddenIn]; done) | decide +kernel
set_option maxRecDepth 65536 in
set_option maxHeartbeats 40000000 in
theorem rm_aaInit (l : Launch) (Z : State) (a0 : Array Value) (hw : ∀ d ∈ tables_1, d.before a0 Z = true) (ws : List Jvm.Cond) (a1 : Addr) (kk u : Addr) (h0 : Heap) (n0 : Nat) (Z0 : n0 ≤ h0.size) (E0 : Exa Z h0 a1 "com/example/payment_retry_queue/paymentretryqueue/AttemptAnswer") (g0 : n0 ≤ a1) (F0_0 : Fld Z h0 a1 "com/example/payment_retry_queue/paymentretryqueue/AttemptAnswer" "kind" "Lcom/example/payment_retry_queue/paymentretryqueue/AttemptAnswer$Kind;" .null) (F0_1 : Fld Z h0 a1 "com/example/payment_retry_queue/paymentretryqueue/AttemptAnswer" "reference" "Ljava/lang/String;" .null) (F0_2 : Fld Z h0 a1 "com/example/payment_retry_queue/paymentretryqueue/AttemptAnswer" "retryAfter" "Ljava/time/Duration;" .null) :
    Con l Z (⟨"com/example/payment_retry_queue/paymentretryqueue/AttemptAnswer", "<init>", "(Lcom/example/payment_retry_queue/paymentretryqueue/AttemptAnswer$Kind;Ljava/lang/String;Ljava/time/Duration;)V"⟩ : MethodName) prog_1_method_2_code 4 none ws rr_aaInit #[(.ref a1), (.ref kk), (.ref u), .null] h0 (fun v h L => v = none ∧ Fr n0 L ∧ Keep h0 h [a1] ∧ Fld Z h a1 "com/example/payment_retry_queue/paymentretryqueue/AttemptAnswer" "kind" "Lcom/example/payment_retry_queue/paymentretryqueue/AttemptAnswer$Kind;" (.ref kk) ∧ Fld Z h a1 "com/example/payment_retry_queue/paymentretryqueue/AttemptAnswer" "reference" "Ljava/lang/String;" (.ref u) ∧ Fld Z h a1 "com/example/payment_retry_queue/paymentretryqueue/AttemptAnswer" "retryAfter" "Ljava/time/Duration;" .null) := by
  refine Con.enter (plainFor_of_name pn21) ?_
  intro p e s m below meth c s₁ X0 hx hZ hby hml hret hlk hown hnm e0
  have N0 := Fr.nil n0
  refine Go.cast (g' := (mkF m 0 #[.val (.ref a1), .val (.ref kk), .val (.ref u), .val .null] [])) (by first | rfl | (simp [entryFrame, mkF, argsToLocals, Value.category]; done)) ?_
  refine Go.st (T' := s₁) (g' := (mkF m 1 #[.val (.ref a1), .val (.ref kk), .val (.ref u), .val .null] [(.ref a1)])) (fun _ zk => XS.aloadN X0.here hx rfl (hb hby d7_0) rfl rfl zk) ?_
  obtain ⟨T1, X1, e1, st1⟩ := initO X0 hx hZ hown (w45 hw) (w17 hw) (w18 hw) e0 (g := (mkF m 1 #[.val (.ref a1), .val (.ref kk), .val (.ref u), .val .null] [(.ref a1)])) rfl (by rw [hml]; rfl) rfl (hb hby d7_1) (by decide) (W := 0) (by show 2 * 0 + _ ≤ _; exact Nat.le_of_eq rfl) (by decide)
  refine Go.st (T' := T1) (g' := (mkF m 4 #[.val (.ref a1), .val (.ref kk), .val (.ref u), .val .null] [])) (fun _ zk => st1 _ zk) ?_
  refine Go.st (T' := T1) (g' := (mkF m 5 #[.val (.ref a1), .val (.ref kk), .val (.ref u), .val .null] [(.ref a1)])) (fun _ zk => XS.aloadN X1.here hx rfl (hb hby d7_4) rfl rfl zk) ?_
  refine Go.st (T' := T1) (g' := (mkF m 6 #[.val (.ref a1), .val (.ref kk), .val (.ref u), .val .null] [(.ref kk), (.ref a1)])) (fun _ zk => XS.aloadN X1.here hx rfl (hb hby d7_5) rfl rfl zk) ?_
  obtain ⟨T2, h2, X2, e2, W2, st2⟩ := putF X1 hx hZ hown (host := "") (Or.inl (w46 hw)) Via.refl e1 F0_0 E0 (Or.inr ⟨(w47 hw), rfl, hnm⟩) (w32 hw) (ty := (.object "com/example/payment_retry_queue/paymentretryqueue/AttemptAnswer$Kind")) (by decide) rfl rfl (g := (mkF m 6 #[.val (.ref a1), .val (.ref kk), .val (.ref u), .val .null] [(.ref kk), (.ref a1)])) rfl rfl (hb hby d7_6)
  have F2 := F0_0.same W2
  have N2 := Fr.snoc X2 N0 g0
  refine Go.st (T' := T2) (g' := (mkF m 9 #[.val (.ref a1), .val (.ref kk), .val (.ref u), .val .null] [])) (fun _ zk => st2 _ zk) ?_
  refine Go.st (T' := T2) (g' := (mkF m 10 #[.val (.ref a1), .val (.ref kk), .val (.ref u), .val .null] [(.ref a1)])) (fun _ zk => XS.aloadN X2.here hx rfl (hb hby d7_9) rfl rfl zk) ?_
  refine Go.st (T' := T2) (g' := (mkF m 11 #[.val (.ref a1), .val (.ref kk), .val (.ref u), .val .null] [(.ref u), (.ref a1)])) (fun _ zk => XS.aloadN X2.here hx rfl (hb hby d7_10) rfl rfl zk) ?_
  have f4 := (F0_1.other W2 (Or.inr (slot_ne (Or.inr (w49 hw)) (Or.inr (w47 hw)) (by decide) (t := (.object "java/lang/String")) (t' := (.object "com/example/payment_retry_queue/paymentretryqueue/AttemptAnswer$Kind")) (by decide) (by decide))))
  have f5 := (E0.wr W2)
  obtain ⟨T3, h3, X3, e3, W3, st3⟩ := putF X2 hx hZ hown (host := "") (Or.inl (w48 hw)) Via.refl e2 f4 f5 (Or.inr ⟨(w49 hw), rfl, hnm⟩) (w32 hw) (ty := (.object "java/lang/String")) (by decide) rfl rfl (g := (mkF m 11 #[.val (.ref a1), .val (.ref kk), .val (.ref u), .val .null] [(.ref u), (.ref a1)])) rfl rfl (hb hby d7_11)
  have F3 := f4.same W3
  have N3 := Fr.snoc X3 N2 g0
  refine Go.st (T' := T3) (g' := (mkF m 14 #[.val (.ref a1), .val (.ref kk), .val (.ref u), .val .null] [])) (fun _ zk => st3 _ zk) ?_
  refine Go.st (T' := T3) (g' := (mkF m 15 #[.val (.ref a1), .val (.ref kk), .val (.ref u), .val .null] [(.ref a1)])) (fun _ zk => XS.aloadN X3.here hx rfl (hb hby d7_14) rfl rfl zk) ?_
  refine Go.st (T' := T3) (g' := (mkF m 16 #[.val (.ref a1), .val (.ref kk), .val (.ref u), .val .null] [.null, (.ref a1)])) (fun _ zk => XS.aloadN X3.here hx rfl (hb hby d7_15) rfl rfl zk) ?_
  have f7 := ((F0_2.other W2 (Or.inr (slot_ne (Or.inr (w51 hw)) (Or.inr (w47 hw)) (by decide) (t := (.object "java/time/Duration")) (t' := (.object "com/example/payment_retry_queue/paymentretryqueue/AttemptAnswer$Kind")) (by decide) (by decide)))).other W3 (Or.inr (slot_ne (Or.inr (w51 hw)) (Or.inr (w49 hw)) (by decide) (t := (.object "java/time/Duration")) (t' := (.object "java/lang/String")) (by decide) (by decide))))
  have f8 := (f5.wr W3)
  obtain ⟨T6, h6, X6, e6, W6, st6⟩ := putF X3 hx hZ hown (host := "") (Or.inl (w50 hw)) Via.refl e3 f7 f8 (Or.inr ⟨(w51 hw), rfl, hnm⟩) (w32 hw) (ty := (.object "java/time/Duration")) (by decide) rfl rfl (g := (mkF m 16 #[.val (.ref a1), .val (.ref kk), .val (.ref u), .val .null] [.null, (.ref a1)])) rfl rfl (hb hby d7_16)
  have F6 := f7.same W6
  have N6 := Fr.snoc X6 N3 g0
  refine Go.st (T' := T6) (g' := (mkF m 19 #[.val (.ref a1), .val (.ref kk), .val (.ref u), .val .null] [])) (fun _ zk => st6 _ zk) ?_
  have f9 := ((F2.other W3 (Or.inr (slot_ne (Or.inr (w47 hw)) (Or.inr (w49 hw)) (by decide) (t := (.object "com/example/payment_retry_queue/paymentretryqueue/AttemptAnswer$Kind")) (t' := (.object "java/lang/String")) (by decide) (by decide)))).other W6 (Or.inr (slot_ne (Or.inr (w47 hw)) (Or.inr (w51 hw)) (by decide) (t := (.object "com/example/payment_retry_queue/paymentretryqueue/AttemptAnswer$Kind")) (t' := (.object "java/time/Duration")) (by decide) (by decide))))
  have f10 := (F3.other W6 (Or.inr (slot_ne (Or.inr (w49 hw)) (Or.inr (w51 hw)) (by decide) (t := (.object "java/lang/String")) (t' := (.object "java/time/Duration")) (by decide) (by decide))))
  refine Go.retV X6 hx hlk hret (hb hby d7_19) (by decide) (by decide) e6 ?_
  exact ⟨rfl, N6, ((((Keep.refl h0 [a1]).wr W2 (Or.inl (List.mem_of_getElem? (i := 0) rfl))).wr W3 (Or.inl (List.mem_of_getElem? (i := 0) rfl))).wr W6 (Or.inl (List.mem_of_getElem? (i := 0) rfl))), f9, f10, F6⟩
theorem d5_0 : decode prog_1_method_3_code 0 = .ok (.new 2, 3) := by decide +kernel
theorem w31 {a0 : Array Value} {Z : State} (hw : ∀ d ∈ tables_1, d.before a0 Z = true) : ((Jvm.Cond.classLink "com/example/payment_retry_queue/paymentretryqueue/AttemptAnswer" (2 : Nat) "com/example/payment_retry_queue/paymentretryqueue/AttemptAnswer")).before a0 Z = true := hw _ (List.mem_of_getElem? (i := 31) rfl)
theorem w29 {a0 : Array Value} {Z : State} (hw : ∀ d ∈ tables_1, d.before a0 Z = true) : ((Jvm.Cond.initialized "com/example/payment_retry_queue/paymentretryqueue/AttemptAnswer")).before a0 Z = true := hw _ (List.mem_of_getElem? (i := 29) rfl)
theorem d5_3 : decode prog_1_method_3_code 3 = .ok (.dup, 1) := by decide +kernel
theorem d5_4 : decode prog_1_method_3_code 4 = .ok (.getstatic 24, 3) := by decide +kernel
theorem w33 {a0 : Array Value} {Z : State} (hw : ∀ d ∈ tables_1, d.before a0 Z = true) : ((Jvm.Cond.fieldLink "com/example/payment_retry_queue/paymentretryqueue/AttemptAnswer" (24 : Nat) "com/example/payment_retry_queue/paymentretryqueue/AttemptAnswer$Kind" "SUCCEEDED" "Lcom/example/payment_retry_queue/paymentretryqueue/AttemptAnswer$Kind;")).before a0 Z = true := hw _ (List.mem_of_getElem? (i := 33) rfl)
theorem d5_7 : decode prog_1_method_3_code 7 = .ok (.aload_n 0, 1) := by decide +kernel
theorem d5_8 : decode prog_1_method_3_code 8 = .ok (.ldc 29, 2) := by decide +kernel
theorem w40 {a0 : Array Value} {Z : State} (hw : ∀ d ∈ tables_1, d.before a0 Z = true) : ((Jvm.Cond.code ({ cls := "java/util/Objects", name := "requireNonNull", desc := "(Ljava/lang/Object;Ljava/lang/String;)Ljava/lang/Object;" } : Jvm.MethodName) jdk_31_method_11_code (2 : Nat) (Option.some (Jvm.ClassFile.FieldType.object "java/lang/Object")))).before a0 Z = true := hw _ (List.mem_of_getElem? (i := 40) rfl)
theorem w39 {a0 : Array Value} {Z : State} (hw : ∀ d ∈ tables_1, d.before a0 Z = true) : ((Jvm.Cond.initialized "java/util/Objects")).before a0 Z = true := hw _ (List.mem_of_getElem? (i := 39) rfl)
theorem pd22 : parseMethodDescriptor "(Ljava/lang/Object;Ljava/lang/String;)Ljava/lang/Object;" = some ⟨[(.object "java/lang/Object"), (.object "java/lang/String")], some (.object "java/lang/Object")⟩ := by decide +kernel
theorem d5_10 : decode prog_1_method_3_code 10 = .ok (.invokestatic 30, 3) := by decide +kernel
theorem w37 {a0 : Array Value} {Z : State} (hw : ∀ d ∈ tables_1, d.before a0 Z = true) : ((Jvm.Cond.methodLink "com/example/payment_retry_queue/paymentretryqueue/AttemptAnswer" (30 : Nat) ({ cls := "java/util/Objects", name := "requireNonNull", desc := "(Ljava/lang/Object;Ljava/lang/String;)Ljava/lang/Object;" } : Jvm.MethodName))).before a0 Z = true := hw _ (List.mem_of_getElem? (i := 37) rfl)
theorem w38 {a0 : Array Value} {Z : State} (hw : ∀ d ∈ tables_1, d.before a0 Z = true) : ((Jvm.Cond.static ({ cls := "java/util/Objects", name := "requireNonNull", desc := "(Ljava/lang/Object;Ljava/lang/String;)Ljava/lang/Object;" } : Jvm.MethodName))).before a0 Z = true := hw _ (List.mem_of_getElem? (i := 38) rfl)
theorem d5_13 : decode prog_1_method_3_code 13 = .ok (.checkcast 36, 3) := by decide +kernel
theorem w41 {a0 : Array Value} {Z : State} (hw : ∀ d ∈ tables_1, d.before a0 Z = true) : ((Jvm.Cond.classLink "com/example/payment_retry_queue/paymentretryqueue/AttemptAnswer" (36 : Nat) "java/lang/String")).before a0 Z = true := hw _ (List.mem_of_getElem? (i := 41) rfl)
theorem d5_16 : decode prog_1_method_3_code 16 = .ok (.aconst_null, 1) := by decide +kernel
theorem w44 {a0 : Array Value} {Z : State} (hw : ∀ d ∈ tables_1, d.before a0 Z = true) : ((Jvm.Cond.code ({ cls := "com/example/payment_retry_queue/paymentretryqueue/AttemptAnswer", name := "<init>", desc := "(Lcom/example/payment_retry_queue/paymentretryqueue/AttemptAnswer$Kind;Ljava/lang/String;Ljava/time/Duration;)V" } : Jvm.MethodName) prog_1_method_2_code (4 : Nat) (Option.none : Option Jvm.ClassFile.FieldType))).before a0 Z = true := hw _ (List.mem_of_getElem? (i := 44) rfl)
theorem pd23 : parseMethodDescriptor "(Lcom/example/payment_retry_queue/paymentretryqueue/AttemptAnswer$Kind;Ljava/lang/String;Ljava/time/Duration;)V" = some ⟨[(.object "com/example/payment_retry_queue/paymentretryqueue/AttemptAnswer$Kind"), (.object "java/lang/String"), (.object "java/time/Duration")], none⟩ := by decide +kernel
theorem d5_17 : decode prog_1_method_3_code 17 = .ok (.invokespecial 1, 3) := by decide +kernel
theorem w42 {a0 : Array Value} {Z : State} (hw : ∀ d ∈ tables_1, d.before a0 Z = true) : ((Jvm.Cond.methodLink "com/example/payment_retry_queue/paymentretryqueue/AttemptAnswer" (1 : Nat) ({ cls := "com/example/payment_retry_queue/paymentretryqueue/AttemptAnswer", name := "<init>", desc := "(Lcom/example/payment_retry_queue/paymentretryqueue/AttemptAnswer$Kind;Ljava/lang/String;Ljava/time/Duration;)V" } : Jvm.MethodName))).before a0 Z = true := hw _ (List.mem_of_getElem? (i := 42) rfl)
theorem w43 {a0 : Array Value} {Z : State} (hw : ∀ d ∈ tables_1, d.before a0 Z = true) : ((Jvm.Cond.instanceMethod ({ cls := "com/example/payment_retry_queue/paymentretryqueue/AttemptAnswer", name := "<init>", desc := "(Lcom/example/payment_retry_queue/paymentretryqueue/AttemptAnswer$Kind;Ljava/lang/String;Ljava/time/Duration;)V" } : Jvm.MethodName))).before a0 Z = true := hw _ (List.mem_of_getElem? (i := 43) rfl)
theorem d5_20 : decode prog_1_method_3_code 20 = .ok (.areturn, 1) := by decide +kernel
def rr_succ : Room := { frames := 2, cells := 3, slots := 43, locals := 28 }
set_option maxRecDepth 65536 in
set_option maxHeartbeats 40000000 in
theorem rm_succ (l : Launch) (Z : State) (a0 : Array Value) (hw : ∀ d ∈ tables_1, d.before a0 Z = true) (ws : List Jvm.Cond) (u kk : Addr) (h0 : Heap) (n0 : Nat) (Z0 : n0 ≤ h0.size) (O0 : Old Z n0 h0) (E0 : Exa Z h0 u "java/lang/String") (SK : Sta Z Z.heap "com/example/payment_retry_queue/paymentretryqueue/AttemptAnswer$Kind" "SUCCEEDED" "Lcom/example/payment_retry_queue/paymentretryqueue/AttemptAnswer$Kind;" (.ref kk)) :
    ConS l Z EL0 (⟨"com/example/payment_retry_queue/paymentretryqueue/AttemptAnswer", "succeeded", "(Ljava/lang/String;)Lcom/example/payment_retry_queue/paymentretryqueue/AttemptAnswer;"⟩ : MethodName) prog_1_method_3_code 1 (some (.object "com/example/payment_retry_queue/paymentretryqueue/AttemptAnswer")) ws rr_succ #[(.ref u)] h0 [] (fun v h L => ∃ a : Addr, v = some (.ref a) ∧ Fr n0 L ∧ Ext h0 h ∧ h0.size ≤ a ∧ Exa Z h a "com/example/payment_retry_queue/paymentretryqueue/AttemptAnswer" ∧ Fld Z h a "com/example/payment_retry_queue/paymentretryqueue/AttemptAnswer" "kind" "Lcom/example/payment_retry_queue/paymentretryqueue/AttemptAnswer$Kind;" (.ref kk) ∧ Fld Z h a "com/example/payment_retry_queue/paymentretryqueue/AttemptAnswer" "reference" "Ljava/lang/String;" (.ref u) ∧ Fld Z h a "com/example/payment_retry_queue/paymentretryqueue/AttemptAnswer" "retryAfter" "Ljava/time/Duration;" .null) := by
  refine ConS.enter (plainFor_of_name pn21) ?_
  intro p e s m below meth c s₁ X0 hx hZ hby hml hret hlk hown hnm e0 hS hA hsf
  have N0 := Fr.nil n0
  have hEL := hEL0 hw
  have hSt := hSt0 hw
  refine Go.cast (g' := (mkF m 0 #[.val (.ref u)] [])) (by first | rfl | (simp [entryFrame, mkF, argsToLocals, Value.category]; done)) ?_
  obtain ⟨T1, h1, X1, e1, E1, A1, D1, -, st1⟩ := newO X0 hx hZ hown (w31 hw) (w32 hw) (w29 hw) e0 (g := (mkF m 0 #[.val (.ref u)] [])) rfl (hb hby d5_0) (by decide) (by decide)
  obtain ⟨b1, g1⟩ : ∃ z, z = h0.size := ⟨_, rfl⟩
  rw [← g1] at A1 D1 st1
  have F1_kind : Fld Z h1 b1 "com/example/payment_retry_queue/paymentretryqueue/AttemptAnswer" "kind" "Lcom/example/payment_retry_queue/paymentretryqueue/AttemptAnswer$Kind;" .null := D1 (Or.inr (w47 hw)) (ty := (.object "com/example/payment_retry_queue/paymentretryqueue/AttemptAnswer$Kind")) (by decide)
  have F1_reference : Fld Z h1 b1 "com/example/payment_retry_queue/paymentretryqueue/AttemptAnswer" "reference" "Ljava/lang/String;" .null := D1 (Or.inr (w49 hw)) (ty := (.object "java/lang/String")) (by decide)
  have F1_retryAfter : Fld Z h1 b1 "com/example/payment_retry_queue/paymentretryqueue/AttemptAnswer" "retryAfter" "Ljava/time/Duration;" .null := D1 (Or.inr (w51 hw)) (ty := (.object "java/time/Duration")) (by decide)
  refine Go.st (T' := T1) (g' := (mkF m 3 #[.val (.ref u)] [(.ref b1)])) (fun _ zk => st1 _ zk) ?_
  refine Go.st (T' := T1) (g' := (mkF m 4 #[.val (.ref u)] [(.ref b1), (.ref b1)])) (fun _ zk => XS.dup X1.here hx rfl (hb hby d5_3) rfl rfl zk) ?_
  have xt3 : Ext h0 h1 := E1
  have f4 := O0.ext xt3
  obtain ⟨T2, X2, e2, st2⟩ := getS2 X1 hx hZ hown (host := "") (Or.inl (w33 hw)) Via.refl e1 (SK.ext f4.2) (g := (mkF m 4 #[.val (.ref u)] [(.ref b1), (.ref b1)])) rfl (hb hby d5_4)
  refine Go.st (T' := T2) (g' := (mkF m 7 #[.val (.ref u)] [(.ref kk), (.ref b1), (.ref b1)])) (fun _ zk => st2 _ zk) ?_
  refine Go.st (T' := T2) (g' := (mkF m 8 #[.val (.ref u)] [(.ref u), (.ref kk), (.ref b1), (.ref b1)])) (fun _ zk => XS.aloadN X2.here hx rfl (hb hby d5_7) rfl rfl zk) ?_
  have cr6 := (chrE hA E1)
  obtain ⟨l5, T5, h5, kk5, lt5, kl5, X5, e5, E5, hS, hk5, hZ', hown, A5, C5, F5, V5, la5, lb5, cr5, -, sf5, st5⟩ := ldcCH X2 hx hZ hown (w36 hw) hSt e2 hS (Nat.le_trans (Nat.zero_le _) E1.1) hEL (by decide) cr6.1 (vs := [(.int (114 : Int32)), (.int (101 : Int32)), (.int (102 : Int32)), (.int (101 : Int32)), (.int (114 : Int32)), (.int (101 : Int32)), (.int (110 : Int32)), (.int (99 : Int32)), (.int (101 : Int32))]) (z := (9 : Int32)) ⟨by decide, by decide⟩ (by decide) (by decide) (g := (mkF m 8 #[.val (.ref u)] [(.ref u), (.ref kk), (.ref b1), (.ref b1)])) rfl (hb hby d5_8) (n := 36) (by decide) (by decide) (by decide) (by decide)
  have hZ : Z.Warmed39 T5.vm := hZ'
  have ca7 := cr6.trans cr5
  refine Go.st (T' := T5) (g' := (mkF m 10 #[.val (.ref u)] [(.ref l5), (.ref u), (.ref kk), (.ref b1), (.ref b1)])) (fun _ zk => st5 _ zk) ?_
  refine Go.callSt (y := (⟨"java/util/Objects", "requireNonNull", "(Ljava/lang/Object;Ljava/lang/String;)Ljava/lang/Object;"⟩ : MethodName)) X5 hx hZ hown e5 (w37 hw) (w38 hw) (w39 hw) (w40 hw) (by decide) (argsL := [(.ref u), (.ref l5)]) (rest := [(.ref kk), (.ref b1), (.ref b1)]) (W := 3) (rm_rnn l Z a0 hw [] u l5 h5 n0 (Nat.le_trans Z0 (Nat.le_trans E1.1 E5.1)) ) rfl (lenOf pd22 rfl) rfl (by rw [hml]; rfl) rfl (by show 2 * 0 + _ ≤ _; exact Nat.le_of_eq rfl) (by decide) (by decide) (by decide) (by decide) (hb hby d5_10) ?_
  intro v8 T8 h8 L8 X8 e8 q8
  obtain ⟨hv8, Nf8, hh8⟩ := q8
  subst hv8
  have E8 : T8.heap = h5 := e8.trans hh8
  have N8 := Fr.app N0 Nf8
  show Go p.tables e below _ T8 (mkF m 13 #[.val (.ref u)] [(.ref u), (.ref kk), (.ref b1), (.ref b1)])
  have xt9 : Ext h0 h5 := (xt3.tr E5)
  have f10 := E0.ext xt9
  obtain ⟨T11, X11, e11, st11⟩ := castY X8 hx hZ hown (w41 hw) E8 (Ins.self f10) (g := (mkF m 13 #[.val (.ref u)] [(.ref u), (.ref kk), (.ref b1), (.ref b1)])) rfl rfl (hb hby d5_13)
  refine Go.st (T' := T11) (g' := (mkF m 16 #[.val (.ref u)] [(.ref u), (.ref kk), (.ref b1), (.ref b1)])) (fun _ zk => st11 _ zk) ?_
  refine Go.st (T' := T11) (g' := (mkF m 17 #[.val (.ref u)] [.null, (.ref u), (.ref kk), (.ref b1), (.ref b1)])) (fun _ zk => XS.aconstNull X11.here hx rfl (hb hby d5_16) zk) ?_
  have xt12 : Ext h1 h5 := E5
  have f13 := A1.ext xt12
  have f14 := F1_kind.ext xt12
  have f15 := F1_reference.ext xt12
  have f16 := F1_retryAfter.ext xt12
  refine Go.callSp (y := (⟨"com/example/payment_retry_queue/paymentretryqueue/AttemptAnswer", "<init>", "(Lcom/example/payment_retry_queue/paymentretryqueue/AttemptAnswer$Kind;Ljava/lang/String;Ljava/time/Duration;)V"⟩ : MethodName)) (a := b1) X11 hx hZ hown e11 rfl (w42 hw) (w43 hw) (w29 hw) (w44 hw) (by decide) (argsL := [(.ref kk), (.ref u), .null]) (rest := [(.ref b1)]) (W := 1) (rm_aaInit l Z a0 hw [] b1 kk u h5 n0 (Nat.le_trans Z0 (Nat.le_trans E1.1 E5.1)) f13 (Nat.le_trans Z0 (Nat.le_trans (Nat.le_refl _) (Nat.le_of_eq g1.symm))) f14 f15 f16) rfl (lenOf pd23 rfl) rfl (by rw [hml]; rfl) rfl (by show 2 * 0 + _ ≤ _; exact Nat.le_of_eq rfl) (by decide) (by decide) (by decide) (by decide) (hb hby d5_17) ?_
  intro v17 T17 h17 L17 X17 e17 q17
  obtain ⟨hv17, Nf17, K17, G17_0, G17_1, G17_2⟩ := q17
  subst hv17
  have N17 := Fr.app N8 Nf17
  show Go p.tables e below _ T17 (mkF m 20 #[.val (.ref u)] [(.ref b1)])
  have xt18 : Ext h0 h17 := (xt9.thenK K17 (allS (P := fun x => h0.size ≤ x) (Nat.le_of_eq g1.symm) all0))
  have f19 := (f13.keep K17)
  have cr20 := (chrK ca7 K17 (sfS (Safe.exa hZ.alike (A1.ext E5) (by decide) (by decide)) sf0))
  refine Go.retAS X17 hx hlk hS (Nat.le_trans hk5 K17.1) cr20 hZ hEL hret rfl rfl (hb hby d5_20) (by decide) (by decide) e17 ?_
  exact ⟨_, rfl, N17, xt18, (Nat.le_trans (Nat.le_refl _) (Nat.le_of_eq g1.symm)), f19, G17_0, G17_1, G17_2⟩
theorem d8_0 : decode prog_1_method_10_code 0 = .ok (.aload_n 0, 1) := by decide +kernel
theorem d8_1 : decode prog_1_method_10_code 1 = .ok (.getfield 12, 3) := by decide +kernel
theorem d8_4 : decode prog_1_method_10_code 4 = .ok (.areturn, 1) := by decide +kernel
def rr_kind : Room := { frames := 0, cells := 0, slots := 0, locals := 0 }
set_option maxRecDepth 65536 in
set_option maxHeartbeats 40000000 in
theorem rm_kind (l : Launch) (Z : State) (a0 : Array Value) (hw : ∀ d ∈ tables_1, d.before a0 Z = true) (ws : List Jvm.Cond) (a1 : Addr) (w : Addr) (h0 : Heap) (n0 : Nat) (Z0 : n0 ≤ h0.size) (F0 : Fld Z h0 a1 "com/example/payment_retry_queue/paymentretryqueue/AttemptAnswer" "kind" "Lcom/example/payment_retry_queue/paymentretryqueue/AttemptAnswer$Kind;" (.ref w)) :
    Con l Z (⟨"com/example/payment_retry_queue/paymentretryqueue/AttemptAnswer", "kind", "()Lcom/example/payment_retry_queue/paymentretryqueue/AttemptAnswer$Kind;"⟩ : MethodName) prog_1_method_10_code 1 (some (.object "com/example/payment_retry_queue/paymentretryqueue/AttemptAnswer$Kind")) ws rr_kind #[(.ref a1)] h0 (fun v h L => v = some (.ref w) ∧ Fr n0 L ∧ h = h0) := by
  refine Con.enter (plainFor_of_name pn21) ?_
  intro p e s m below meth c s₁ X0 hx hZ hby hml hret hlk hown hnm e0
  have N0 := Fr.nil n0
  refine Go.cast (g' := (mkF m 0 #[.val (.ref a1)] [])) (by first | rfl | (simp [entryFrame, mkF, argsToLocals, Value.category]; done)) ?_
  refine Go.st (T' := s₁) (g' := (mkF m 1 #[.val (.ref a1)] [(.ref a1)])) (fun _ zk => XS.aloadN X0.here hx rfl (hb hby d8_0) rfl rfl zk) ?_
  obtain ⟨T1, X1, e1, st1⟩ := getF X0 hx hZ hown (host := "") (Or.inl (w46 hw)) Via.refl e0 F0 (g := (mkF m 1 #[.val (.ref a1)] [(.ref a1)])) rfl rfl (hb hby d8_1)
  refine Go.st (T' := T1) (g' := (mkF m 4 #[.val (.ref a1)] [(.ref w)])) (fun _ zk => st1 _ zk) ?_
  refine Go.retA X1 hx hlk hret rfl rfl (hb hby d8_4) (by decide) (by decide) e1 ?_
  exact ⟨rfl, N0, rfl⟩
theorem d11_0 : decode jdk_32_method_2_code 0 = .ok (.aload_n 0, 1) := by decide +kernel
theorem d11_1 : decode jdk_32_method_2_code 1 = .ok (.invokespecial 7, 3) := by decide +kernel
theorem w73 {a0 : Array Value} {Z : State} (hw : ∀ d ∈ tables_1, d.before a0 Z = true) : ((Jvm.Cond.methodLink "java/util/Optional" (7 : Nat) ({ cls := "java/lang/Object", name := "<init>", desc := "()V" } : Jvm.MethodName))).before a0 Z = true := hw _ (List.mem_of_getElem? (i := 73) rfl)
theorem d11_4 : decode jdk_32_method_2_code 4 = .ok (.aload_n 0, 1) := by decide +kernel
theorem d11_5 : decode jdk_32_method_2_code 5 = .ok (.aload_n 1, 1) := by decide +kernel
theorem d11_6 : decode jdk_32_method_2_code 6 = .ok (.putfield 13, 3) := by decide +kernel
theorem w74 {a0 : Array Value} {Z : State} (hw : ∀ d ∈ tables_1, d.before a0 Z = true) : ((Jvm.Cond.fieldLink "java/util/Optional" (13 : Nat) "java/util/Optional" "value" "Ljava/lang/Object;")).before a0 Z = true := hw _ (List.mem_of_getElem? (i := 74) rfl)
theorem w68 {a0 : Array Value} {Z : State} (hw : ∀ d ∈ tables_1, d.before a0 Z = true) : ((Jvm.Cond.instantiable "java/util/Optional" (1 : Nat))).before a0 Z = true := hw _ (List.mem_of_getElem? (i := 68) rfl)
theorem w75 {a0 : Array Value} {Z : State} (hw : ∀ d ∈ tables_1, d.before a0 Z = true) : ((Jvm.Cond.laysFinal "java/util/Optional" "java/util/Optional" "value" "Ljava/lang/Object;")).before a0 Z = true := hw _ (List.mem_of_getElem? (i := 75) rfl)
theorem d11_9 : decode jdk_32_method_2_code 9 = .ok (.return_, 1) := by decide +kernel
def rr_opInit : Room := { frames := 1, cells := 0, slots := 0, locals := 12 }
theorem pn24 : plainName "java/util/Optional" = true := by first | (simp [plainName, overriddenIn]; done) | decide +kernel
set_option maxRecDepth 65536 in
set_option maxHeartbeats 40000000 in
theorem rm_opInit (l : Launch) (Z : State) (a0 : Array Value) (hw : ∀ d ∈ tables_1, d.before a0 Z = true) (ws : List Jvm.Cond) (a1 : Addr) (u : Addr) (h0 : Heap) (n0 : Nat) (Z0 : n0 ≤ h0.size) (E0 : Exa Z h0 a1 "java/util/Optional") (g0 : n0 ≤ a1) (F0_0 : Fld Z h0 a1 "java/util/Optional" "value" "Ljava/lang/Object;" .null) :
    Con l Z (⟨"java/util/Optional", "<init>", "(Ljava/lang/Object;)V"⟩ : MethodName) jdk_32_method_2_code 2 none ws rr_opInit #[(.ref a1), (.ref u)] h0 (fun v h L => v = none ∧ Fr n0 L ∧ Keep h0 h [a1] ∧ Fld Z h a1 "java/util/Optional" "value" "Ljava/lang/Object;" (.ref u)) := by
  refine Con.enter (plainFor_of_name pn24) ?_
  intro p e s m below meth c s₁ X0 hx hZ hby hml hret hlk hown hnm e0
  have N0 := Fr.nil n0
  refine Go.cast (g' := (mkF m 0 #[.val (.ref a1), .val (.ref u)] [])) (by first | rfl | (simp [entryFrame, mkF, argsToLocals, Value.category]; done)) ?_
  refine Go.st (T' := s₁) (g' := (mkF m 1 #[.val (.ref a1), .val (.ref u)] [(.ref a1)])) (fun _ zk => XS.aloadN X0.here hx rfl (hb hby d11_0) rfl rfl zk) ?_
  obtain ⟨T1, X1, e1, st1⟩ := initO X0 hx hZ hown (w73 hw) (w17 hw) (w18 hw) e0 (g := (mkF m 1 #[.val (.ref a1), .val (.ref u)] [(.ref a1)])) rfl (by rw [hml]; rfl) rfl (hb hby d11_1) (by decide) (W := 0) (by show 2 * 0 + _ ≤ _; exact Nat.le_of_eq rfl) (by decide)
  refine Go.st (T' := T1) (g' := (mkF m 4 #[.val (.ref a1), .val (.ref u)] [])) (fun _ zk => st1 _ zk) ?_
  refine Go.st (T' := T1) (g' := (mkF m 5 #[.val (.ref a1), .val (.ref u)] [(.ref a1)])) (fun _ zk => XS.aloadN X1.here hx rfl (hb hby d11_4) rfl rfl zk) ?_
  refine Go.st (T' := T1) (g' := (mkF m 6 #[.val (.ref a1), .val (.ref u)] [(.ref u), (.ref a1)])) (fun _ zk => XS.aloadN X1.here hx rfl (hb hby d11_5) rfl rfl zk) ?_
  obtain ⟨T2, h2, X2, e2, W2, st2⟩ := putF X1 hx hZ hown (host := "") (Or.inl (w74 hw)) Via.refl e1 F0_0 E0 (Or.inr ⟨(w75 hw), rfl, hnm⟩) (w68 hw) (ty := (.object "java/lang/Object")) (by decide) rfl rfl (g := (mkF m 6 #[.val (.ref a1), .val (.ref u)] [(.ref u), (.ref a1)])) rfl rfl (hb hby d11_6)
  have F2 := F0_0.same W2
  have N2 := Fr.snoc X2 N0 g0
  refine Go.st (T' := T2) (g' := (mkF m 9 #[.val (.ref a1), .val (.ref u)] [])) (fun _ zk => st2 _ zk) ?_
  refine Go.retV X2 hx hlk hret (hb hby d11_9) (by decide) (by decide) e2 ?_
  exact ⟨rfl, N2, ((Keep.refl h0 [a1]).wr W2 (Or.inl (List.mem_of_getElem? (i := 0) rfl))), F2⟩
theorem d10_0 : decode jdk_32_method_4_code 0 = .ok (.aload_n 0, 1) := by decide +kernel
theorem d10_1 : decode jdk_32_method_4_code 1 = .ok (.ifnonnull 9, 3) := by decide +kernel
theorem d10_10 : decode jdk_32_method_4_code 10 = .ok (.new 2, 3) := by decide +kernel
theorem w67 {a0 : Array Value} {Z : State} (hw : ∀ d ∈ tables_1, d.before a0 Z = true) : ((Jvm.Cond.classLink "java/util/Optional" (2 : Nat) "java/util/Optional")).before a0 Z = true := hw _ (List.mem_of_getElem? (i := 67) rfl)
theorem w65 {a0 : Array Value} {Z : State} (hw : ∀ d ∈ tables_1, d.before a0 Z = true) : ((Jvm.Cond.initialized "java/util/Optional")).before a0 Z = true := hw _ (List.mem_of_getElem? (i := 65) rfl)
theorem d10_13 : decode jdk_32_method_4_code 13 = .ok (.dup, 1) := by decide +kernel
theorem d10_14 : decode jdk_32_method_4_code 14 = .ok (.aload_n 0, 1) := by decide +kernel
theorem w72 {a0 : Array Value} {Z : State} (hw : ∀ d ∈ tables_1, d.before a0 Z = true) : ((Jvm.Cond.code ({ cls := "java/util/Optional", name := "<init>", desc := "(Ljava/lang/Object;)V" } : Jvm.MethodName) jdk_32_method_2_code (2 : Nat) (Option.none : Option Jvm.ClassFile.FieldType))).before a0 Z = true := hw _ (List.mem_of_getElem? (i := 72) rfl)
theorem pd25 : parseMethodDescriptor "(Ljava/lang/Object;)V" = some ⟨[(.object "java/lang/Object")], none⟩ := by decide +kernel
theorem d10_15 : decode jdk_32_method_4_code 15 = .ok (.invokespecial 23, 3) := by decide +kernel
theorem w69 {a0 : Array Value} {Z : State} (hw : ∀ d ∈ tables_1, d.before a0 Z = true) : ((Jvm.Cond.methodLink "java/util/Optional" (23 : Nat) ({ cls := "java/util/Optional", name := "<init>", desc := "(Ljava/lang/Object;)V" } : Jvm.MethodName))).before a0 Z = true := hw _ (List.mem_of_getElem? (i := 69) rfl)
theorem w70 {a0 : Array Value} {Z : State} (hw : ∀ d ∈ tables_1, d.before a0 Z = true) : ((Jvm.Cond.instanceMethod ({ cls := "java/util/Optional", name := "<init>", desc := "(Ljava/lang/Object;)V" } : Jvm.MethodName))).before a0 Z = true := hw _ (List.mem_of_getElem? (i := 70) rfl)
theorem d10_18 : decode jdk_32_method_4_code 18 = .ok (.areturn, 1) := by decide +kernel
def rr_ofn1 : Room := { frames := 2, cells := 1, slots := 1, locals := 26 }
set_option maxRecDepth 65536 in
set_option maxHeartbeats 40000000 in
theorem rm_ofn1 (l : Launch) (Z : State) (a0 : Array Value) (hw : ∀ d ∈ tables_1, d.before a0 Z = true) (ws : List Jvm.Cond) (u : Addr) (h0 : Heap) (n0 : Nat) (Z0 : n0 ≤ h0.size)  :
    Con l Z (⟨"java/util/Optional", "ofNullable", "(Ljava/lang/Object;)Ljava/util/Optional;"⟩ : MethodName) jdk_32_method_4_code 1 (some (.object "java/util/Optional")) ws rr_ofn1 #[(.ref u)] h0 (fun v h L => ∃ o : Addr, v = some (.ref o) ∧ Fr n0 L ∧ Ext h0 h ∧ h0.size ≤ o ∧ Exa Z h o "java/util/Optional" ∧ Fld Z h o "java/util/Optional" "value" "Ljava/lang/Object;" (.ref u)) := by
  refine Con.enter (plainFor_of_name pn24) ?_
  intro p e s m below meth c s₁ X0 hx hZ hby hml hret hlk hown hnm e0
  have N0 := Fr.nil n0
  refine Go.cast (g' := (mkF m 0 #[.val (.ref u)] [])) (by first | rfl | (simp [entryFrame, mkF, argsToLocals, Value.category]; done)) ?_
  refine Go.st (T' := s₁) (g' := (mkF m 1 #[.val (.ref u)] [(.ref u)])) (fun _ zk => XS.aloadN X0.here hx rfl (hb hby d10_0) rfl rfl zk) ?_
  refine Go.st (T' := s₁) (g' := (mkF m 10 #[.val (.ref u)] [])) (fun _ zk => XS.ifnonnullYes X0.here hx rfl (pc0 := 1) (pc' := 10) rfl (hb hby d10_1) rfl (by decide) (by decide) zk) ?_
  obtain ⟨T1, h1, X1, e1, E1, A1, D1, -, st1⟩ := newO X0 hx hZ hown (w67 hw) (w68 hw) (w65 hw) e0 (g := (mkF m 10 #[.val (.ref u)] [])) rfl (hb hby d10_10) (by decide) (by decide)
  obtain ⟨b1, g1⟩ : ∃ z, z = h0.size := ⟨_, rfl⟩
  rw [← g1] at A1 D1 st1
  have F1_value : Fld Z h1 b1 "java/util/Optional" "value" "Ljava/lang/Object;" .null := D1 (Or.inr (w75 hw)) (ty := (.object "java/lang/Object")) (by decide)
  refine Go.st (T' := T1) (g' := (mkF m 13 #[.val (.ref u)] [(.ref b1)])) (fun _ zk => st1 _ zk) ?_
  refine Go.st (T' := T1) (g' := (mkF m 14 #[.val (.ref u)] [(.ref b1), (.ref b1)])) (fun _ zk => XS.dup X1.here hx rfl (hb hby d10_13) rfl rfl zk) ?_
  refine Go.st (T' := T1) (g' := (mkF m 15 #[.val (.ref u)] [(.ref u), (.ref b1), (.ref b1)])) (fun _ zk => XS.aloadN X1.here hx rfl (hb hby d10_14) rfl rfl zk) ?_
  refine Go.callSp (y := (⟨"java/util/Optional", "<init>", "(Ljava/lang/Object;)V"⟩ : MethodName)) (a := b1) X1 hx hZ hown e1 rfl (w69 hw) (w70 hw) (w65 hw) (w72 hw) (by decide) (argsL := [(.ref u)]) (rest := [(.ref b1)]) (W := 1) (rm_opInit l Z a0 hw [] b1 u h1 n0 (Nat.le_trans Z0 E1.1) A1 (Nat.le_trans Z0 (Nat.le_trans (Nat.le_refl _) (Nat.le_of_eq g1.symm))) F1_value) rfl (lenOf pd25 rfl) rfl (by rw [hml]; rfl) rfl (by show 2 * 0 + _ ≤ _; exact Nat.le_of_eq rfl) (by decide) (by decide) (by decide) (by decide) (hb hby d10_15) ?_
  intro v2 T2 h2 L2 X2 e2 q2
  obtain ⟨hv2, Nf2, K2, G2_0⟩ := q2
  subst hv2
  have N2 := Fr.app N0 Nf2
  show Go p.tables e below _ T2 (mkF m 18 #[.val (.ref u)] [(.ref b1)])
  have xt3 : Ext h0 h2 := (E1.thenK K2 (allS (P := fun x => h0.size ≤ x) (Nat.le_of_eq g1.symm) all0))
  have f4 := (A1.keep K2)
  refine Go.retA X2 hx hlk hret rfl rfl (hb hby d10_18) (by decide) (by decide) e2 ?_
  exact ⟨_, rfl, N2, xt3, (Nat.le_trans (Nat.le_refl _) (Nat.le_of_eq g1.symm)), f4, G2_0⟩
theorem d10_4 : decode jdk_32_method_4_code 4 = .ok (.getstatic 1, 3) := by decide +kernel
theorem w107 {a0 : Array Value} {Z : State} (hw : ∀ d ∈ tables_1, d.before a0 Z = true) : ((Jvm.Cond.fieldLink "java/util/Optional" (1 : Nat) "java/util/Optional" "EMPTY" "Ljava/util/Optional;")).before a0 Z = true := hw _ (List.mem_of_getElem? (i := 107) rfl)
theorem d10_7 : decode jdk_32_method_4_code 7 = .ok (.goto 11, 3) := by decide +kernel
def rr_ofn0 : Room := { frames := 0, cells := 0, slots := 0, locals := 0 }
set_option maxRecDepth 65536 in
set_option maxHeartbeats 40000000 in
theorem rm_ofn0 (l : Launch) (Z : State) (a0 : Array Value) (hw : ∀ d ∈ tables_1, d.before a0 Z = true) (ws : List Jvm.Cond) (em : Addr) (h0 : Heap) (n0 : Nat) (Z0 : n0 ≤ h0.size) (O0 : Old Z n0 h0) (EM : Sta Z Z.heap "java/util/Optional" "EMPTY" "Ljava/util/Optional;" (.ref em)) :
    Con l Z (⟨"java/util/Optional", "ofNullable", "(Ljava/lang/Object;)Ljava/util/Optional;"⟩ : MethodName) jdk_32_method_4_code 1 (some (.object "java/util/Optional")) ws rr_ofn0 #[.null] h0 (fun v h L => v = some (.ref em) ∧ Fr n0 L ∧ h = h0) := by
  refine Con.enter (plainFor_of_name pn24) ?_
  intro p e s m below meth c s₁ X0 hx hZ hby hml hret hlk hown hnm e0
  have N0 := Fr.nil n0
  refine Go.cast (g' := (mkF m 0 #[.val .null] [])) (by first | rfl | (simp [entryFrame, mkF, argsToLocals, Value.category]; done)) ?_
  refine Go.st (T' := s₁) (g' := (mkF m 1 #[.val .null] [.null])) (fun _ zk => XS.aloadN X0.here hx rfl (hb hby d10_0) rfl rfl zk) ?_
  refine Go.st (T' := s₁) (g' := (mkF m 4 #[.val .null] [])) (fun _ zk => XS.ifnonnullNo X0.here hx rfl (hb hby d10_1) rfl zk) ?_
  obtain ⟨T1, X1, e1, st1⟩ := getS2 X0 hx hZ hown (host := "") (Or.inl (w107 hw)) Via.refl e0 (EM.ext O0.2) (g := (mkF m 4 #[.val .null] [])) rfl (hb hby d10_4)
  refine Go.st (T' := T1) (g' := (mkF m 7 #[.val .null] [(.ref em)])) (fun _ zk => st1 _ zk) ?_
  refine Go.st (T' := T1) (g' := (mkF m 18 #[.val .null] [(.ref em)])) (fun _ zk => XS.goto X1.here hx rfl (pc0 := 7) (pc' := 18) rfl (hb hby d10_7) (by decide) (by decide) zk) ?_
  refine Go.retA X1 hx hlk hret rfl rfl (hb hby d10_18) (by decide) (by decide) e1 ?_
  exact ⟨rfl, N0, rfl⟩
theorem d9_0 : decode prog_1_method_11_code 0 = .ok (.aload_n 0, 1) := by decide +kernel
theorem d9_1 : decode prog_1_method_11_code 1 = .ok (.getfield 16, 3) := by decide +kernel
theorem w66 {a0 : Array Value} {Z : State} (hw : ∀ d ∈ tables_1, d.before a0 Z = true) : ((Jvm.Cond.code ({ cls := "java/util/Optional", name := "ofNullable", desc := "(Ljava/lang/Object;)Ljava/util/Optional;" } : Jvm.MethodName) jdk_32_method_4_code (1 : Nat) (Option.some (Jvm.ClassFile.FieldType.object "java/util/Optional")))).before a0 Z = true := hw _ (List.mem_of_getElem? (i := 66) rfl)
theorem pd26 : parseMethodDescriptor "(Ljava/lang/Object;)Ljava/util/Optional;" = some ⟨[(.object "java/lang/Object")], some (.object "java/util/Optional")⟩ := by decide +kernel
theorem d9_4 : decode prog_1_method_11_code 4 = .ok (.invokestatic 93, 3) := by decide +kernel
theorem w63 {a0 : Array Value} {Z : State} (hw : ∀ d ∈ tables_1, d.before a0 Z = true) : ((Jvm.Cond.methodLink "com/example/payment_retry_queue/paymentretryqueue/AttemptAnswer" (93 : Nat) ({ cls := "java/util/Optional", name := "ofNullable", desc := "(Ljava/lang/Object;)Ljava/util/Optional;" } : Jvm.MethodName))).before a0 Z = true := hw _ (List.mem_of_getElem? (i := 63) rfl)
theorem w64 {a0 : Array Value} {Z : State} (hw : ∀ d ∈ tables_1, d.before a0 Z = true) : ((Jvm.Cond.static ({ cls := "java/util/Optional", name := "ofNullable", desc := "(Ljava/lang/Object;)Ljava/util/Optional;" } : Jvm.MethodName))).before a0 Z = true := hw _ (List.mem_of_getElem? (i := 64) rfl)
theorem d9_7 : decode prog_1_method_11_code 7 = .ok (.areturn, 1) := by decide +kernel
def rr_refr : Room := { frames := 3, cells := 1, slots := 1, locals := 38 }
set_option maxRecDepth 65536 in
set_option maxHeartbeats 40000000 in
theorem rm_refr (l : Launch) (Z : State) (a0 : Array Value) (hw : ∀ d ∈ tables_1, d.before a0 Z = true) (ws : List Jvm.Cond) (a1 u : Addr) (h0 : Heap) (n0 : Nat) (Z0 : n0 ≤ h0.size) (F0 : Fld Z h0 a1 "com/example/payment_retry_queue/paymentretryqueue/AttemptAnswer" "reference" "Ljava/lang/String;" (.ref u)) :
    Con l Z (⟨"com/example/payment_retry_queue/paymentretryqueue/AttemptAnswer", "reference", "()Ljava/util/Optional;"⟩ : MethodName) prog_1_method_11_code 1 (some (.object "java/util/Optional")) ws rr_refr #[(.ref a1)] h0 (fun v h L => ∃ o : Addr, v = some (.ref o) ∧ Fr n0 L ∧ Ext h0 h ∧ h0.size ≤ o ∧ Exa Z h o "java/util/Optional" ∧ Fld Z h o "java/util/Optional" "value" "Ljava/lang/Object;" (.ref u)) := by
  refine Con.enter (plainFor_of_name pn21) ?_
  intro p e s m below meth c s₁ X0 hx hZ hby hml hret hlk hown hnm e0
  have N0 := Fr.nil n0
  refine Go.cast (g' := (mkF m 0 #[.val (.ref a1)] [])) (by first | rfl | (simp [entryFrame, mkF, argsToLocals, Value.category]; done)) ?_
  refine Go.st (T' := s₁) (g' := (mkF m 1 #[.val (.ref a1)] [(.ref a1)])) (fun _ zk => XS.aloadN X0.here hx rfl (hb hby d9_0) rfl rfl zk) ?_
  obtain ⟨T1, X1, e1, st1⟩ := getF X0 hx hZ hown (host := "") (Or.inl (w48 hw)) Via.refl e0 F0 (g := (mkF m 1 #[.val (.ref a1)] [(.ref a1)])) rfl rfl (hb hby d9_1)
  refine Go.st (T' := T1) (g' := (mkF m 4 #[.val (.ref a1)] [(.ref u)])) (fun _ zk => st1 _ zk) ?_
  refine Go.callSt (y := (⟨"java/util/Optional", "ofNullable", "(Ljava/lang/Object;)Ljava/util/Optional;"⟩ : MethodName)) X1 hx hZ hown e1 (w63 hw) (w64 hw) (w65 hw) (w66 hw) (by decide) (argsL := [(.ref u)]) (rest := []) (W := 0) (rm_ofn1 l Z a0 hw [] u h0 n0 Z0 ) rfl (lenOf pd26 rfl) rfl (by rw [hml]; rfl) rfl (by show 2 * 0 + _ ≤ _; exact Nat.le_of_eq rfl) (by decide) (by decide) (by decide) (by decide) (hb hby d9_4) ?_
  intro v2 T2 h2 L2 X2 e2 q2
  obtain ⟨o2, hv2, Nf2, E2, ge2, A2, F2⟩ := q2
  subst hv2
  have N2 := Fr.app N0 Nf2
  show Go p.tables e below _ T2 (mkF m 7 #[.val (.ref a1)] [(.ref o2)])
  have xt3 : Ext h0 h2 := E2
  refine Go.retA X2 hx hlk hret rfl rfl (hb hby d9_7) (by decide) (by decide) e2 ?_
  exact ⟨_, rfl, N2, xt3, (Nat.le_trans (Nat.le_refl _) ge2), A2, F2⟩
theorem d17_0 : decode prog_1_method_12_code 0 = .ok (.aload_n 0, 1) := by decide +kernel
theorem d17_1 : decode prog_1_method_12_code 1 = .ok (.getfield 20, 3) := by decide +kernel
theorem d17_4 : decode prog_1_method_12_code 4 = .ok (.invokestatic 93, 3) := by decide +kernel
theorem d17_7 : decode prog_1_method_12_code 7 = .ok (.areturn, 1) := by decide +kernel
def rr_rtaf : Room := { frames := 1, cells := 0, slots := 0, locals := 12 }
set_option maxRecDepth 65536 in
set_option maxHeartbeats 40000000 in
theorem rm_rtaf (l : Launch) (Z : State) (a0 : Array Value) (hw : ∀ d ∈ tables_1, d.before a0 Z = true) (ws : List Jvm.Cond) (a1 em : Addr) (h0 : Heap) (n0 : Nat) (Z0 : n0 ≤ h0.size) (O0 : Old Z n0 h0) (F0 : Fld Z h0 a1 "com/example/payment_retry_queue/paymentretryqueue/AttemptAnswer" "retryAfter" "Ljava/time/Duration;" .null) (EM : Sta Z Z.heap "java/util/Optional" "EMPTY" "Ljava/util/Optional;" (.ref em)) :
    Con l Z (⟨"com/example/payment_retry_queue/paymentretryqueue/AttemptAnswer", "retryAfter", "()Ljava/util/Optional;"⟩ : MethodName) prog_1_method_12_code 1 (some (.object "java/util/Optional")) ws rr_rtaf #[(.ref a1)] h0 (fun v h L => v = some (.ref em) ∧ Fr n0 L ∧ h = h0) := by
  refine Con.enter (plainFor_of_name pn21) ?_
  intro p e s m below meth c s₁ X0 hx hZ hby hml hret hlk hown hnm e0
  have N0 := Fr.nil n0
  refine Go.cast (g' := (mkF m 0 #[.val (.ref a1)] [])) (by first | rfl | (simp [entryFrame, mkF, argsToLocals, Value.category]; done)) ?_
  refine Go.st (T' := s₁) (g' := (mkF m 1 #[.val (.ref a1)] [(.ref a1)])) (fun _ zk => XS.aloadN X0.here hx rfl (hb hby d17_0) rfl rfl zk) ?_
  obtain ⟨T1, X1, e1, st1⟩ := getF X0 hx hZ hown (host := "") (Or.inl (w50 hw)) Via.refl e0 F0 (g := (mkF m 1 #[.val (.ref a1)] [(.ref a1)])) rfl rfl (hb hby d17_1)
  refine Go.st (T' := T1) (g' := (mkF m 4 #[.val (.ref a1)] [.null])) (fun _ zk => st1 _ zk) ?_
  refine Go.callSt (y := (⟨"java/util/Optional", "ofNullable", "(Ljava/lang/Object;)Ljava/util/Optional;"⟩ : MethodName)) X1 hx hZ hown e1 (w63 hw) (w64 hw) (w65 hw) (w66 hw) (by decide) (argsL := [.null]) (rest := []) (W := 0) (rm_ofn0 l Z a0 hw [] em h0 n0 Z0 O0 EM) rfl (lenOf pd26 rfl) rfl (by rw [hml]; rfl) rfl (by show 2 * 0 + _ ≤ _; exact Nat.le_of_eq rfl) (by decide) (by decide) (by decide) (by decide) (hb hby d17_4) ?_
  intro v2 T2 h2 L2 X2 e2 q2
  obtain ⟨hv2, Nf2, hh2⟩ := q2
  subst hv2
  have E2 : T2.heap = h0 := e2.trans hh2
  have N2 := Fr.app N0 Nf2
  show Go p.tables e below _ T2 (mkF m 7 #[.val (.ref a1)] [(.ref em)])
  refine Go.retA X2 hx hlk hret rfl rfl (hb hby d17_7) (by decide) (by decide) E2 ?_
  exact ⟨rfl, N2, rfl⟩
theorem d12_0 : decode jdk_32_method_6_code 0 = .ok (.aload_n 0, 1) := by decide +kernel
theorem d12_1 : decode jdk_32_method_6_code 1 = .ok (.getfield 13, 3) := by decide +kernel
theorem d12_4 : decode jdk_32_method_6_code 4 = .ok (.ifnull 7, 3) := by decide +kernel
theorem d12_7 : decode jdk_32_method_6_code 7 = .ok (.iconst 1, 1) := by decide +kernel
theorem d12_8 : decode jdk_32_method_6_code 8 = .ok (.goto 4, 3) := by decide +kernel
theorem d12_12 : decode jdk_32_method_6_code 12 = .ok (.ireturn, 1) := by decide +kernel
def rr_isPr1 : Room := { frames := 0, cells := 0, slots := 0, locals := 0 }
set_option maxRecDepth 65536 in
set_option maxHeartbeats 40000000 in
theorem rm_isPr1 (l : Launch) (Z : State) (a0 : Array Value) (hw : ∀ d ∈ tables_1, d.before a0 Z = true) (ws : List Jvm.Cond) (a1 u : Addr) (h0 : Heap) (n0 : Nat) (Z0 : n0 ≤ h0.size) (F0 : Fld Z h0 a1 "java/util/Optional" "value" "Ljava/lang/Object;" (.ref u)) :
    Con l Z (⟨"java/util/Optional", "isPresent", "()Z"⟩ : MethodName) jdk_32_method_6_code 1 (some .boolean) ws rr_isPr1 #[(.ref a1)] h0 (fun v h L => v = some (.int 1) ∧ Fr n0 L ∧ h = h0) := by
  refine Con.enter (plainFor_of_name pn24) ?_
  intro p e s m below meth c s₁ X0 hx hZ hby hml hret hlk hown hnm e0
  have N0 := Fr.nil n0
  refine Go.cast (g' := (mkF m 0 #[.val (.ref a1)] [])) (by first | rfl | (simp [entryFrame, mkF, argsToLocals, Value.category]; done)) ?_
  refine Go.st (T' := s₁) (g' := (mkF m 1 #[.val (.ref a1)] [(.ref a1)])) (fun _ zk => XS.aloadN X0.here hx rfl (hb hby d12_0) rfl rfl zk) ?_
  obtain ⟨T1, X1, e1, st1⟩ := getF X0 hx hZ hown (host := "") (Or.inl (w74 hw)) Via.refl e0 F0 (g := (mkF m 1 #[.val (.ref a1)] [(.ref a1)])) rfl rfl (hb hby d12_1)
  refine Go.st (T' := T1) (g' := (mkF m 4 #[.val (.ref a1)] [(.ref u)])) (fun _ zk => st1 _ zk) ?_
  refine Go.st (T' := T1) (g' := (mkF m 7 #[.val (.ref a1)] [])) (fun _ zk => XS.ifnullNo X1.here hx rfl (hb hby d12_4) rfl zk) ?_
  refine Go.st (T' := T1) (g' := (mkF m 8 #[.val (.ref a1)] [(.int (1 : Int32))])) (fun _ zk => XS.iconst X1.here hx rfl (hb hby d12_7) zk) ?_
  refine Go.st (T' := T1) (g' := (mkF m 12 #[.val (.ref a1)] [(.int (1 : Int32))])) (fun _ zk => XS.goto X1.here hx rfl (pc0 := 8) (pc' := 12) rfl (hb hby d12_8) (by decide) (by decide) zk) ?_
  refine Go.retN X1 hx hlk hret rfl (by simp) (hb hby d12_12) (by decide) (by decide) e1 ?_
  exact ⟨rfl, N0, rfl⟩
theorem d12_11 : decode jdk_32_method_6_code 11 = .ok (.iconst 0, 1) := by decide +kernel
def rr_isPr0 : Room := { frames := 0, cells := 0, slots := 0, locals := 0 }
set_option maxRecDepth 65536 in
set_option maxHeartbeats 40000000 in
theorem rm_isPr0 (l : Launch) (Z : State) (a0 : Array Value) (hw : ∀ d ∈ tables_1, d.before a0 Z = true) (ws : List Jvm.Cond) (a1 : Addr) (h0 : Heap) (n0 : Nat) (Z0 : n0 ≤ h0.size) (F0 : Fld Z h0 a1 "java/util/Optional" "value" "Ljava/lang/Object;" .null) :
    Con l Z (⟨"java/util/Optional", "isPresent", "()Z"⟩ : MethodName) jdk_32_method_6_code 1 (some .boolean) ws rr_isPr0 #[(.ref a1)] h0 (fun v h L => v = some (.int 0) ∧ Fr n0 L ∧ h = h0) := by
  refine Con.enter (plainFor_of_name pn24) ?_
  intro p e s m below meth c s₁ X0 hx hZ hby hml hret hlk hown hnm e0
  have N0 := Fr.nil n0
  refine Go.cast (g' := (mkF m 0 #[.val (.ref a1)] [])) (by first | rfl | (simp [entryFrame, mkF, argsToLocals, Value.category]; done)) ?_
  refine Go.st (T' := s₁) (g' := (mkF m 1 #[.val (.ref a1)] [(.ref a1)])) (fun _ zk => XS.aloadN X0.here hx rfl (hb hby d12_0) rfl rfl zk) ?_
  obtain ⟨T1, X1, e1, st1⟩ := getF X0 hx hZ hown (host := "") (Or.inl (w74 hw)) Via.refl e0 F0 (g := (mkF m 1 #[.val (.ref a1)] [(.ref a1)])) rfl rfl (hb hby d12_1)
  refine Go.st (T' := T1) (g' := (mkF m 4 #[.val (.ref a1)] [.null])) (fun _ zk => st1 _ zk) ?_
  refine Go.st (T' := T1) (g' := (mkF m 11 #[.val (.ref a1)] [])) (fun _ zk => XS.ifnullYes X1.here hx rfl (pc0 := 4) (pc' := 11) rfl (hb hby d12_4) rfl (by decide) (by decide) zk) ?_
  refine Go.st (T' := T1) (g' := (mkF m 12 #[.val (.ref a1)] [(.int (0 : Int32))])) (fun _ zk => XS.iconst X1.here hx rfl (hb hby d12_11) zk) ?_
  refine Go.retN X1 hx hlk hret rfl (by simp) (hb hby d12_12) (by decide) (by decide) e1 ?_
  exact ⟨rfl, N0, rfl⟩
theorem d13_0 : decode jdk_32_method_5_code 0 = .ok (.aload_n 0, 1) := by decide +kernel
theorem d13_1 : decode jdk_32_method_5_code 1 = .ok (.getfield 13, 3) := by decide +kernel
theorem d13_4 : decode jdk_32_method_5_code 4 = .ok (.ifnonnull 13, 3) := by decide +kernel
theorem d13_17 : decode jdk_32_method_5_code 17 = .ok (.aload_n 0, 1) := by decide +kernel
theorem d13_18 : decode jdk_32_method_5_code 18 = .ok (.getfield 13, 3) := by decide +kernel
theorem d13_21 : decode jdk_32_method_5_code 21 = .ok (.areturn, 1) := by decide +kernel
def rr_oget : Room := { frames := 0, cells := 0, slots := 0, locals := 0 }
set_option maxRecDepth 65536 in
set_option maxHeartbeats 40000000 in
theorem rm_oget (l : Launch) (Z : State) (a0 : Array Value) (hw : ∀ d ∈ tables_1, d.before a0 Z = true) (ws : List Jvm.Cond) (a1 u : Addr) (h0 : Heap) (n0 : Nat) (Z0 : n0 ≤ h0.size) (F0 : Fld Z h0 a1 "java/util/Optional" "value" "Ljava/lang/Object;" (.ref u)) :
    Con l Z (⟨"java/util/Optional", "get", "()Ljava/lang/Object;"⟩ : MethodName) jdk_32_method_5_code 1 (some (.object "java/lang/Object")) ws rr_oget #[(.ref a1)] h0 (fun v h L => v = some (.ref u) ∧ Fr n0 L ∧ h = h0) := by
  refine Con.enter (plainFor_of_name pn24) ?_
  intro p e s m below meth c s₁ X0 hx hZ hby hml hret hlk hown hnm e0
  have N0 := Fr.nil n0
  refine Go.cast (g' := (mkF m 0 #[.val (.ref a1)] [])) (by first | rfl | (simp [entryFrame, mkF, argsToLocals, Value.category]; done)) ?_
  refine Go.st (T' := s₁) (g' := (mkF m 1 #[.val (.ref a1)] [(.ref a1)])) (fun _ zk => XS.aloadN X0.here hx rfl (hb hby d13_0) rfl rfl zk) ?_
  obtain ⟨T1, X1, e1, st1⟩ := getF X0 hx hZ hown (host := "") (Or.inl (w74 hw)) Via.refl e0 F0 (g := (mkF m 1 #[.val (.ref a1)] [(.ref a1)])) rfl rfl (hb hby d13_1)
  refine Go.st (T' := T1) (g' := (mkF m 4 #[.val (.ref a1)] [(.ref u)])) (fun _ zk => st1 _ zk) ?_
  refine Go.st (T' := T1) (g' := (mkF m 17 #[.val (.ref a1)] [])) (fun _ zk => XS.ifnonnullYes X1.here hx rfl (pc0 := 4) (pc' := 17) rfl (hb hby d13_4) rfl (by decide) (by decide) zk) ?_
  refine Go.st (T' := T1) (g' := (mkF m 18 #[.val (.ref a1)] [(.ref a1)])) (fun _ zk => XS.aloadN X1.here hx rfl (hb hby d13_17) rfl rfl zk) ?_
  obtain ⟨T2, X2, e2, st2⟩ := getF X1 hx hZ hown (host := "") (Or.inl (w74 hw)) Via.refl e1 F0 (g := (mkF m 18 #[.val (.ref a1)] [(.ref a1)])) rfl rfl (hb hby d13_18)
  refine Go.st (T' := T2) (g' := (mkF m 21 #[.val (.ref a1)] [(.ref u)])) (fun _ zk => st2 _ zk) ?_
  refine Go.retA X2 hx hlk hret rfl rfl (hb hby d13_21) (by decide) (by decide) e2 ?_
  exact ⟨rfl, N0, rfl⟩
theorem w0 {a0 : Array Value} {Z : State} (hw : ∀ d ∈ tables_1, d.before a0 Z = true) : ((Jvm.Cond.constant "com/example/payment_retry_queue/paymentretryqueue/AttemptAnswerSucceededPinLaw" (12 : Nat) (65535 : Int32))).before a0 Z = true := hw _ (List.mem_of_getElem? (i := 0) rfl)
theorem w4 {a0 : Array Value} {Z : State} (hw : ∀ d ∈ tables_1, d.before a0 Z = true) : ((Jvm.Cond.code ({ cls := "com/example/payment_retry_queue/paymentretryqueue/AttemptAnswerSucceededPinLaw", name := "make", desc := "(ICCC)Ljava/lang/String;" } : Jvm.MethodName) method_2_code (5 : Nat) (Option.some (Jvm.ClassFile.FieldType.object "java/lang/String")))).before a0 Z = true := hw _ (List.mem_of_getElem? (i := 4) rfl)
theorem w3 {a0 : Array Value} {Z : State} (hw : ∀ d ∈ tables_1, d.before a0 Z = true) : ((Jvm.Cond.initialized "com/example/payment_retry_queue/paymentretryqueue/AttemptAnswerSucceededPinLaw")).before a0 Z = true := hw _ (List.mem_of_getElem? (i := 3) rfl)
theorem pd27 : parseMethodDescriptor "(ICCC)Ljava/lang/String;" = some ⟨[.int, .char, .char, .char], some (.object "java/lang/String")⟩ := by decide +kernel
theorem w1 {a0 : Array Value} {Z : State} (hw : ∀ d ∈ tables_1, d.before a0 Z = true) : ((Jvm.Cond.methodLink "com/example/payment_retry_queue/paymentretryqueue/AttemptAnswerSucceededPinLaw" (13 : Nat) ({ cls := "com/example/payment_retry_queue/paymentretryqueue/AttemptAnswerSucceededPinLaw", name := "make", desc := "(ICCC)Ljava/lang/String;" } : Jvm.MethodName))).before a0 Z = true := hw _ (List.mem_of_getElem? (i := 1) rfl)
theorem w2 {a0 : Array Value} {Z : State} (hw : ∀ d ∈ tables_1, d.before a0 Z = true) : ((Jvm.Cond.static ({ cls := "com/example/payment_retry_queue/paymentretryqueue/AttemptAnswerSucceededPinLaw", name := "make", desc := "(ICCC)Ljava/lang/String;" } : Jvm.MethodName))).before a0 Z = true := hw _ (List.mem_of_getElem? (i := 2) rfl)
theorem w30 {a0 : Array Value} {Z : State} (hw : ∀ d ∈ tables_1, d.before a0 Z = true) : ((Jvm.Cond.code ({ cls := "com/example/payment_retry_queue/paymentretryqueue/AttemptAnswer", name := "succeeded", desc := "(Ljava/lang/String;)Lcom/example/payment_retry_queue/paymentretryqueue/AttemptAnswer;" } : Jvm.MethodName) prog_1_method_3_code (1 : Nat) (Option.some (Jvm.ClassFile.FieldType.object "com/example/payment_retry_queue/paymentretryqueue/AttemptAnswer")))).before a0 Z = true := hw _ (List.mem_of_getElem? (i := 30) rfl)
theorem pd28 : parseMethodDescriptor "(Ljava/lang/String;)Lcom/example/payment_retry_queue/paymentretryqueue/AttemptAnswer;" = some ⟨[(.object "java/lang/String")], some (.object "com/example/payment_retry_queue/paymentretryqueue/AttemptAnswer")⟩ := by decide +kernel
theorem w27 {a0 : Array Value} {Z : State} (hw : ∀ d ∈ tables_1, d.before a0 Z = true) : ((Jvm.Cond.methodLink "com/example/payment_retry_queue/paymentretryqueue/AttemptAnswerSucceededPinLaw" (19 : Nat) ({ cls := "com/example/payment_retry_queue/paymentretryqueue/AttemptAnswer", name := "succeeded", desc := "(Ljava/lang/String;)Lcom/example/payment_retry_queue/paymentretryqueue/AttemptAnswer;" } : Jvm.MethodName))).before a0 Z = true := hw _ (List.mem_of_getElem? (i := 27) rfl)
theorem w28 {a0 : Array Value} {Z : State} (hw : ∀ d ∈ tables_1, d.before a0 Z = true) : ((Jvm.Cond.static ({ cls := "com/example/payment_retry_queue/paymentretryqueue/AttemptAnswer", name := "succeeded", desc := "(Ljava/lang/String;)Lcom/example/payment_retry_queue/paymentretryqueue/AttemptAnswer;" } : Jvm.MethodName))).before a0 Z = true := hw _ (List.mem_of_getElem? (i := 28) rfl)
theorem w56 {a0 : Array Value} {Z : State} (hw : ∀ d ∈ tables_1, d.before a0 Z = true) : ((Jvm.Cond.code ({ cls := "com/example/payment_retry_queue/paymentretryqueue/AttemptAnswer", name := "kind", desc := "()Lcom/example/payment_retry_queue/paymentretryqueue/AttemptAnswer$Kind;" } : Jvm.MethodName) prog_1_method_10_code (1 : Nat) (Option.some (Jvm.ClassFile.FieldType.object "com/example/payment_retry_queue/paymentretryqueue/AttemptAnswer$Kind")))).before a0 Z = true := hw _ (List.mem_of_getElem? (i := 56) rfl)
theorem pd29 : parseMethodDescriptor "()Lcom/example/payment_retry_queue/paymentretryqueue/AttemptAnswer$Kind;" = some ⟨[], some (.object "com/example/payment_retry_queue/paymentretryqueue/AttemptAnswer$Kind")⟩ := by decide +kernel
theorem w55 {a0 : Array Value} {Z : State} (hw : ∀ d ∈ tables_1, d.before a0 Z = true) : ((Jvm.Cond.selects "com/example/payment_retry_queue/paymentretryqueue/AttemptAnswer" ({ cls := "com/example/payment_retry_queue/paymentretryqueue/AttemptAnswer", name := "kind", desc := "()Lcom/example/payment_retry_queue/paymentretryqueue/AttemptAnswer$Kind;" } : Jvm.MethodName) ({ cls := "com/example/payment_retry_queue/paymentretryqueue/AttemptAnswer", name := "kind", desc := "()Lcom/example/payment_retry_queue/paymentretryqueue/AttemptAnswer$Kind;" } : Jvm.MethodName))).before a0 Z = true := hw _ (List.mem_of_getElem? (i := 55) rfl)
theorem w54 {a0 : Array Value} {Z : State} (hw : ∀ d ∈ tables_1, d.before a0 Z = true) : ((Jvm.Cond.instanceMethod ({ cls := "com/example/payment_retry_queue/paymentretryqueue/AttemptAnswer", name := "kind", desc := "()Lcom/example/payment_retry_queue/paymentretryqueue/AttemptAnswer$Kind;" } : Jvm.MethodName))).before a0 Z = true := hw _ (List.mem_of_getElem? (i := 54) rfl)
theorem w52 {a0 : Array Value} {Z : State} (hw : ∀ d ∈ tables_1, d.before a0 Z = true) : ((Jvm.Cond.methodLink "com/example/payment_retry_queue/paymentretryqueue/AttemptAnswerSucceededPinLaw" (25 : Nat) ({ cls := "com/example/payment_retry_queue/paymentretryqueue/AttemptAnswer", name := "kind", desc := "()Lcom/example/payment_retry_queue/paymentretryqueue/AttemptAnswer$Kind;" } : Jvm.MethodName))).before a0 Z = true := hw _ (List.mem_of_getElem? (i := 52) rfl)
theorem w53 {a0 : Array Value} {Z : State} (hw : ∀ d ∈ tables_1, d.before a0 Z = true) : ((Jvm.Cond.declares ({ cls := "com/example/payment_retry_queue/paymentretryqueue/AttemptAnswer", name := "kind", desc := "()Lcom/example/payment_retry_queue/paymentretryqueue/AttemptAnswer$Kind;" } : Jvm.MethodName))).before a0 Z = true := hw _ (List.mem_of_getElem? (i := 53) rfl)
theorem w57 {a0 : Array Value} {Z : State} (hw : ∀ d ∈ tables_1, d.before a0 Z = true) : ((Jvm.Cond.fieldLink "com/example/payment_retry_queue/paymentretryqueue/AttemptAnswerSucceededPinLaw" (29 : Nat) "com/example/payment_retry_queue/paymentretryqueue/AttemptAnswer$Kind" "SUCCEEDED" "Lcom/example/payment_retry_queue/paymentretryqueue/AttemptAnswer$Kind;")).before a0 Z = true := hw _ (List.mem_of_getElem? (i := 57) rfl)
theorem w62 {a0 : Array Value} {Z : State} (hw : ∀ d ∈ tables_1, d.before a0 Z = true) : ((Jvm.Cond.code ({ cls := "com/example/payment_retry_queue/paymentretryqueue/AttemptAnswer", name := "reference", desc := "()Ljava/util/Optional;" } : Jvm.MethodName) prog_1_method_11_code (1 : Nat) (Option.some (Jvm.ClassFile.FieldType.object "java/util/Optional")))).before a0 Z = true := hw _ (List.mem_of_getElem? (i := 62) rfl)
theorem pd30 : parseMethodDescriptor "()Ljava/util/Optional;" = some ⟨[], some (.object "java/util/Optional")⟩ := by decide +kernel
theorem w61 {a0 : Array Value} {Z : State} (hw : ∀ d ∈ tables_1, d.before a0 Z = true) : ((Jvm.Cond.selects "com/example/payment_retry_queue/paymentretryqueue/AttemptAnswer" ({ cls := "com/example/payment_retry_queue/paymentretryqueue/AttemptAnswer", name := "reference", desc := "()Ljava/util/Optional;" } : Jvm.MethodName) ({ cls := "com/example/payment_retry_queue/paymentretryqueue/AttemptAnswer", name := "reference", desc := "()Ljava/util/Optional;" } : Jvm.MethodName))).before a0 Z = true := hw _ (List.mem_of_getElem? (i := 61) rfl)
theorem w60 {a0 : Array Value} {Z : State} (hw : ∀ d ∈ tables_1, d.before a0 Z = true) : ((Jvm.Cond.instanceMethod ({ cls := "com/example/payment_retry_queue/paymentretryqueue/AttemptAnswer", name := "reference", desc := "()Ljava/util/Optional;" } : Jvm.MethodName))).before a0 Z = true := hw _ (List.mem_of_getElem? (i := 60) rfl)
theorem w58 {a0 : Array Value} {Z : State} (hw : ∀ d ∈ tables_1, d.before a0 Z = true) : ((Jvm.Cond.methodLink "com/example/payment_retry_queue/paymentretryqueue/AttemptAnswerSucceededPinLaw" (35 : Nat) ({ cls := "com/example/payment_retry_queue/paymentretryqueue/AttemptAnswer", name := "reference", desc := "()Ljava/util/Optional;" } : Jvm.MethodName))).before a0 Z = true := hw _ (List.mem_of_getElem? (i := 58) rfl)
theorem w59 {a0 : Array Value} {Z : State} (hw : ∀ d ∈ tables_1, d.before a0 Z = true) : ((Jvm.Cond.declares ({ cls := "com/example/payment_retry_queue/paymentretryqueue/AttemptAnswer", name := "reference", desc := "()Ljava/util/Optional;" } : Jvm.MethodName))).before a0 Z = true := hw _ (List.mem_of_getElem? (i := 59) rfl)
theorem w80 {a0 : Array Value} {Z : State} (hw : ∀ d ∈ tables_1, d.before a0 Z = true) : ((Jvm.Cond.code ({ cls := "java/util/Optional", name := "isPresent", desc := "()Z" } : Jvm.MethodName) jdk_32_method_6_code (1 : Nat) (Option.some Jvm.ClassFile.FieldType.boolean))).before a0 Z = true := hw _ (List.mem_of_getElem? (i := 80) rfl)
theorem w79 {a0 : Array Value} {Z : State} (hw : ∀ d ∈ tables_1, d.before a0 Z = true) : ((Jvm.Cond.selects "java/util/Optional" ({ cls := "java/util/Optional", name := "isPresent", desc := "()Z" } : Jvm.MethodName) ({ cls := "java/util/Optional", name := "isPresent", desc := "()Z" } : Jvm.MethodName))).before a0 Z = true := hw _ (List.mem_of_getElem? (i := 79) rfl)
theorem w78 {a0 : Array Value} {Z : State} (hw : ∀ d ∈ tables_1, d.before a0 Z = true) : ((Jvm.Cond.instanceMethod ({ cls := "java/util/Optional", name := "isPresent", desc := "()Z" } : Jvm.MethodName))).before a0 Z = true := hw _ (List.mem_of_getElem? (i := 78) rfl)
theorem w76 {a0 : Array Value} {Z : State} (hw : ∀ d ∈ tables_1, d.before a0 Z = true) : ((Jvm.Cond.methodLink "com/example/payment_retry_queue/paymentretryqueue/AttemptAnswerSucceededPinLaw" (39 : Nat) ({ cls := "java/util/Optional", name := "isPresent", desc := "()Z" } : Jvm.MethodName))).before a0 Z = true := hw _ (List.mem_of_getElem? (i := 76) rfl)
theorem w77 {a0 : Array Value} {Z : State} (hw : ∀ d ∈ tables_1, d.before a0 Z = true) : ((Jvm.Cond.declares ({ cls := "java/util/Optional", name := "isPresent", desc := "()Z" } : Jvm.MethodName))).before a0 Z = true := hw _ (List.mem_of_getElem? (i := 77) rfl)
theorem w85 {a0 : Array Value} {Z : State} (hw : ∀ d ∈ tables_1, d.before a0 Z = true) : ((Jvm.Cond.code ({ cls := "java/util/Optional", name := "get", desc := "()Ljava/lang/Object;" } : Jvm.MethodName) jdk_32_method_5_code (1 : Nat) (Option.some (Jvm.ClassFile.FieldType.object "java/lang/Object")))).before a0 Z = true := hw _ (List.mem_of_getElem? (i := 85) rfl)
theorem pd31 : parseMethodDescriptor "()Ljava/lang/Object;" = some ⟨[], some (.object "java/lang/Object")⟩ := by decide +kernel
theorem w84 {a0 : Array Value} {Z : State} (hw : ∀ d ∈ tables_1, d.before a0 Z = true) : ((Jvm.Cond.selects "java/util/Optional" ({ cls := "java/util/Optional", name := "get", desc := "()Ljava/lang/Object;" } : Jvm.MethodName) ({ cls := "java/util/Optional", name := "get", desc := "()Ljava/lang/Object;" } : Jvm.MethodName))).before a0 Z = true := hw _ (List.mem_of_getElem? (i := 84) rfl)
theorem w83 {a0 : Array Value} {Z : State} (hw : ∀ d ∈ tables_1, d.before a0 Z = true) : ((Jvm.Cond.instanceMethod ({ cls := "java/util/Optional", name := "get", desc := "()Ljava/lang/Object;" } : Jvm.MethodName))).before a0 Z = true := hw _ (List.mem_of_getElem? (i := 83) rfl)
theorem w81 {a0 : Array Value} {Z : State} (hw : ∀ d ∈ tables_1, d.before a0 Z = true) : ((Jvm.Cond.methodLink "com/example/payment_retry_queue/paymentretryqueue/AttemptAnswerSucceededPinLaw" (45 : Nat) ({ cls := "java/util/Optional", name := "get", desc := "()Ljava/lang/Object;" } : Jvm.MethodName))).before a0 Z = true := hw _ (List.mem_of_getElem? (i := 81) rfl)
theorem w82 {a0 : Array Value} {Z : State} (hw : ∀ d ∈ tables_1, d.before a0 Z = true) : ((Jvm.Cond.declares ({ cls := "java/util/Optional", name := "get", desc := "()Ljava/lang/Object;" } : Jvm.MethodName))).before a0 Z = true := hw _ (List.mem_of_getElem? (i := 82) rfl)
theorem w90 {a0 : Array Value} {Z : State} (hw : ∀ d ∈ tables_1, d.before a0 Z = true) : ((Jvm.Cond.code ({ cls := "java/lang/String", name := "equals", desc := "(Ljava/lang/Object;)Z" } : Jvm.MethodName) jdk_42_method_66_code (3 : Nat) (Option.some Jvm.ClassFile.FieldType.boolean))).before a0 Z = true := hw _ (List.mem_of_getElem? (i := 90) rfl)
theorem pd32 : parseMethodDescriptor "(Ljava/lang/Object;)Z" = some ⟨[(.object "java/lang/Object")], some .boolean⟩ := by decide +kernel
theorem w89 {a0 : Array Value} {Z : State} (hw : ∀ d ∈ tables_1, d.before a0 Z = true) : ((Jvm.Cond.selects "java/lang/String" ({ cls := "java/lang/String", name := "equals", desc := "(Ljava/lang/Object;)Z" } : Jvm.MethodName) ({ cls := "java/lang/String", name := "equals", desc := "(Ljava/lang/Object;)Z" } : Jvm.MethodName))).before a0 Z = true := hw _ (List.mem_of_getElem? (i := 89) rfl)
theorem w88 {a0 : Array Value} {Z : State} (hw : ∀ d ∈ tables_1, d.before a0 Z = true) : ((Jvm.Cond.instanceMethod ({ cls := "java/lang/String", name := "equals", desc := "(Ljava/lang/Object;)Z" } : Jvm.MethodName))).before a0 Z = true := hw _ (List.mem_of_getElem? (i := 88) rfl)
theorem w86 {a0 : Array Value} {Z : State} (hw : ∀ d ∈ tables_1, d.before a0 Z = true) : ((Jvm.Cond.methodLink "com/example/payment_retry_queue/paymentretryqueue/AttemptAnswerSucceededPinLaw" (49 : Nat) ({ cls := "java/lang/String", name := "equals", desc := "(Ljava/lang/Object;)Z" } : Jvm.MethodName))).before a0 Z = true := hw _ (List.mem_of_getElem? (i := 86) rfl)
theorem w87 {a0 : Array Value} {Z : State} (hw : ∀ d ∈ tables_1, d.before a0 Z = true) : ((Jvm.Cond.declares ({ cls := "java/lang/String", name := "equals", desc := "(Ljava/lang/Object;)Z" } : Jvm.MethodName))).before a0 Z = true := hw _ (List.mem_of_getElem? (i := 87) rfl)
theorem w95 {a0 : Array Value} {Z : State} (hw : ∀ d ∈ tables_1, d.before a0 Z = true) : ((Jvm.Cond.code ({ cls := "java/lang/String", name := "length", desc := "()I" } : Jvm.MethodName) jdk_42_method_54_code (1 : Nat) (Option.some Jvm.ClassFile.FieldType.int))).before a0 Z = true := hw _ (List.mem_of_getElem? (i := 95) rfl)
theorem pd33 : parseMethodDescriptor "()I" = some ⟨[], some .int⟩ := by decide +kernel
theorem w94 {a0 : Array Value} {Z : State} (hw : ∀ d ∈ tables_1, d.before a0 Z = true) : ((Jvm.Cond.selects "java/lang/String" ({ cls := "java/lang/String", name := "length", desc := "()I" } : Jvm.MethodName) ({ cls := "java/lang/String", name := "length", desc := "()I" } : Jvm.MethodName))).before a0 Z = true := hw _ (List.mem_of_getElem? (i := 94) rfl)
theorem w93 {a0 : Array Value} {Z : State} (hw : ∀ d ∈ tables_1, d.before a0 Z = true) : ((Jvm.Cond.instanceMethod ({ cls := "java/lang/String", name := "length", desc := "()I" } : Jvm.MethodName))).before a0 Z = true := hw _ (List.mem_of_getElem? (i := 93) rfl)
theorem w91 {a0 : Array Value} {Z : State} (hw : ∀ d ∈ tables_1, d.before a0 Z = true) : ((Jvm.Cond.methodLink "com/example/payment_retry_queue/paymentretryqueue/AttemptAnswerSucceededPinLaw" (53 : Nat) ({ cls := "java/lang/String", name := "length", desc := "()I" } : Jvm.MethodName))).before a0 Z = true := hw _ (List.mem_of_getElem? (i := 91) rfl)
theorem w92 {a0 : Array Value} {Z : State} (hw : ∀ d ∈ tables_1, d.before a0 Z = true) : ((Jvm.Cond.declares ({ cls := "java/lang/String", name := "length", desc := "()I" } : Jvm.MethodName))).before a0 Z = true := hw _ (List.mem_of_getElem? (i := 92) rfl)
theorem w106 {a0 : Array Value} {Z : State} (hw : ∀ d ∈ tables_1, d.before a0 Z = true) : ((Jvm.Cond.code ({ cls := "com/example/payment_retry_queue/paymentretryqueue/AttemptAnswer", name := "retryAfter", desc := "()Ljava/util/Optional;" } : Jvm.MethodName) prog_1_method_12_code (1 : Nat) (Option.some (Jvm.ClassFile.FieldType.object "java/util/Optional")))).before a0 Z = true := hw _ (List.mem_of_getElem? (i := 106) rfl)
theorem w105 {a0 : Array Value} {Z : State} (hw : ∀ d ∈ tables_1, d.before a0 Z = true) : ((Jvm.Cond.selects "com/example/payment_retry_queue/paymentretryqueue/AttemptAnswer" ({ cls := "com/example/payment_retry_queue/paymentretryqueue/AttemptAnswer", name := "retryAfter", desc := "()Ljava/util/Optional;" } : Jvm.MethodName) ({ cls := "com/example/payment_retry_queue/paymentretryqueue/AttemptAnswer", name := "retryAfter", desc := "()Ljava/util/Optional;" } : Jvm.MethodName))).before a0 Z = true := hw _ (List.mem_of_getElem? (i := 105) rfl)
theorem w104 {a0 : Array Value} {Z : State} (hw : ∀ d ∈ tables_1, d.before a0 Z = true) : ((Jvm.Cond.instanceMethod ({ cls := "com/example/payment_retry_queue/paymentretryqueue/AttemptAnswer", name := "retryAfter", desc := "()Ljava/util/Optional;" } : Jvm.MethodName))).before a0 Z = true := hw _ (List.mem_of_getElem? (i := 104) rfl)
theorem w102 {a0 : Array Value} {Z : State} (hw : ∀ d ∈ tables_1, d.before a0 Z = true) : ((Jvm.Cond.methodLink "com/example/payment_retry_queue/paymentretryqueue/AttemptAnswerSucceededPinLaw" (61 : Nat) ({ cls := "com/example/payment_retry_queue/paymentretryqueue/AttemptAnswer", name := "retryAfter", desc := "()Ljava/util/Optional;" } : Jvm.MethodName))).before a0 Z = true := hw _ (List.mem_of_getElem? (i := 102) rfl)
theorem w103 {a0 : Array Value} {Z : State} (hw : ∀ d ∈ tables_1, d.before a0 Z = true) : ((Jvm.Cond.declares ({ cls := "com/example/payment_retry_queue/paymentretryqueue/AttemptAnswer", name := "retryAfter", desc := "()Ljava/util/Optional;" } : Jvm.MethodName))).before a0 Z = true := hw _ (List.mem_of_getElem? (i := 103) rfl)
theorem w122 {a0 : Array Value} {Z : State} (hw : ∀ d ∈ tables_1, d.before a0 Z = true) : ((Jvm.Cond.code ({ cls := "java/lang/String", name := "charAt", desc := "(I)C" } : Jvm.MethodName) jdk_42_method_56_code (2 : Nat) (Option.some Jvm.ClassFile.FieldType.char))).before a0 Z = true := hw _ (List.mem_of_getElem? (i := 122) rfl)
theorem pd34 : parseMethodDescriptor "(I)C" = some ⟨[.int], some .char⟩ := by decide +kernel
theorem w121 {a0 : Array Value} {Z : State} (hw : ∀ d ∈ tables_1, d.before a0 Z = true) : ((Jvm.Cond.selects "java/lang/String" ({ cls := "java/lang/String", name := "charAt", desc := "(I)C" } : Jvm.MethodName) ({ cls := "java/lang/String", name := "charAt", desc := "(I)C" } : Jvm.MethodName))).before a0 Z = true := hw _ (List.mem_of_getElem? (i := 121) rfl)
theorem w120 {a0 : Array Value} {Z : State} (hw : ∀ d ∈ tables_1, d.before a0 Z = true) : ((Jvm.Cond.instanceMethod ({ cls := "java/lang/String", name := "charAt", desc := "(I)C" } : Jvm.MethodName))).before a0 Z = true := hw _ (List.mem_of_getElem? (i := 120) rfl)
theorem w118 {a0 : Array Value} {Z : State} (hw : ∀ d ∈ tables_1, d.before a0 Z = true) : ((Jvm.Cond.methodLink "com/example/payment_retry_queue/paymentretryqueue/AttemptAnswerSucceededPinLaw" (57 : Nat) ({ cls := "java/lang/String", name := "charAt", desc := "(I)C" } : Jvm.MethodName))).before a0 Z = true := hw _ (List.mem_of_getElem? (i := 118) rfl)
theorem w119 {a0 : Array Value} {Z : State} (hw : ∀ d ∈ tables_1, d.before a0 Z = true) : ((Jvm.Cond.declares ({ cls := "java/lang/String", name := "charAt", desc := "(I)C" } : Jvm.MethodName))).before a0 Z = true := hw _ (List.mem_of_getElem? (i := 119) rfl)
set_option maxRecDepth 65536 in
set_option maxHeartbeats 40000000 in
theorem rm_law (l : Launch) (Z : State) (a0 : Array Value) (hw : ∀ d ∈ tables_1, d.before a0 Z = true) (ws : List Jvm.Cond) (x0 x1 x2 x3 zc : Int32) (fm : Value) (kk em : Addr) (h0 : Heap) (n0 : Nat) (Z0 : n0 ≤ h0.size) (O0 : Old Z n0 h0) (CS : Sta Z Z.heap "java/lang/String" "COMPACT_STRINGS" "Z" (.int zc)) (hz : ¬ zc = 0) (FM : Sta Z Z.heap "jdk/internal/util/Preconditions" "SIOOBE_FORMATTER" "Ljava/util/function/BiFunction;" fm) (rf : fm.isRef = true) (UA : Sta Z Z.heap "java/lang/StringUTF16" "$assertionsDisabled" "Z" (.int (1 : Int32))) (UH : Sta Z Z.heap "java/lang/StringUTF16" "HI_BYTE_SHIFT" "I" (.int (0 : Int32))) (UL : Sta Z Z.heap "java/lang/StringUTF16" "LO_BYTE_SHIFT" "I" (.int (8 : Int32))) (SK : Sta Z Z.heap "com/example/payment_retry_queue/paymentretryqueue/AttemptAnswer$Kind" "SUCCEEDED" "Lcom/example/payment_retry_queue/paymentretryqueue/AttemptAnswer$Kind;" (.ref kk)) (EM : Sta Z Z.heap "java/util/Optional" "EMPTY" "Ljava/util/Optional;" (.ref em)) (EME : Exa Z Z.heap em "java/util/Optional") (EMF : Fld Z Z.heap em "java/util/Optional" "value" "Ljava/lang/Object;" .null) :
    ConS l Z EL0 x code maxLocals ret ws room_1 #[(.int x0), (.int x1), (.int x2), (.int x3)] h0 [] (fun v h L => v = some (.int 1) ∧ Fr n0 L) := by
  refine ConS.enter (plainFor_of_name pn20) ?_
  intro p e s m below meth c s₁ X0 hx hZ hby hml hret hlk hown hnm e0 hS hA hsf
  have N0 := Fr.nil n0
  have hEL := hEL0 hw
  have hSt := hSt0 hw
  refine Go.cast (g' := (mkF m 0 #[.val (.int x0), .val (.int x1), .val (.int x2), .val (.int x3), .unset, .unset, .unset, .unset, .unset, .unset, .unset, .unset] [])) (by first | rfl | (simp [entryFrame, mkF, argsToLocals, Value.category, maxLocals]; done)) ?_
  refine Go.st (T' := s₁) (g' := (mkF m 1 #[.val (.int x0), .val (.int x1), .val (.int x2), .val (.int x3), .unset, .unset, .unset, .unset, .unset, .unset, .unset, .unset] [(.int x0)])) (fun _ zk => XS.iloadN X0.here hx rfl (hb hby at_0) rfl zk) ?_
  refine Go.st (T' := s₁) (g' := (mkF m 2 #[.val (.int x0), .val (.int x1), .val (.int x2), .val (.int x3), .unset, .unset, .unset, .unset, .unset, .unset, .unset, .unset] [(.int (3 : Int32)), (.int x0)])) (fun _ zk => XS.iconst X0.here hx rfl (hb hby at_1) zk) ?_
  refine Go.st (T' := s₁) (g' := (mkF m 3 #[.val (.int x0), .val (.int x1), .val (.int x2), .val (.int x3), .unset, .unset, .unset, .unset, .unset, .unset, .unset, .unset] [(.int (x0 &&& (3 : Int32)))])) (fun _ zk => XS.iand X0.here hx rfl (hb hby at_2) rfl zk) ?_
  obtain ⟨n, hn⟩ : ∃ z, z = (x0 &&& (3 : Int32)) := ⟨_, rfl⟩
  rw [← hn]
  have qn := own_m4 x0
  rw [← hn] at qn
  refine Go.st (T' := s₁) (g' := (mkF m 5 #[.val (.int x0), .val (.int x1), .val (.int x2), .val (.int x3), .val (.int n), .unset, .unset, .unset, .unset, .unset, .unset, .unset] [])) (fun _ zk => XS.istore X0.here hx rfl (hb hby at_3) rfl (l' := #[.val (.int x0), .val (.int x1), .val (.int x2), .val (.int x3), .val (.int n), .unset, .unset, .unset, .unset, .unset, .unset, .unset]) rfl zk) ?_
  refine Go.st (T' := s₁) (g' := (mkF m 6 #[.val (.int x0), .val (.int x1), .val (.int x2), .val (.int x3), .val (.int n), .unset, .unset, .unset, .unset, .unset, .unset, .unset] [(.int x1)])) (fun _ zk => XS.iloadN X0.here hx rfl (hb hby at_5) rfl zk) ?_
  refine Go.st (T' := s₁) (g' := (mkF m 8 #[.val (.int x0), .val (.int x1), .val (.int x2), .val (.int x3), .val (.int n), .unset, .unset, .unset, .unset, .unset, .unset, .unset] [(.int (65535 : Int32)), (.int x1)])) (fun _ zk => X0.ldcI hx hown (mvT hZ (w0 hw)) rfl (hb hby at_6) zk) ?_
  refine Go.st (T' := s₁) (g' := (mkF m 9 #[.val (.int x0), .val (.int x1), .val (.int x2), .val (.int x3), .val (.int n), .unset, .unset, .unset, .unset, .unset, .unset, .unset] [(.int (x1 &&& (65535 : Int32)))])) (fun _ zk => XS.iand X0.here hx rfl (hb hby at_8) rfl zk) ?_
  refine Go.st (T' := s₁) (g' := (mkF m 10 #[.val (.int x0), .val (.int x1), .val (.int x2), .val (.int x3), .val (.int n), .unset, .unset, .unset, .unset, .unset, .unset, .unset] [(.int ((x1 &&& (65535 : Int32)).toUInt32.toUInt16.toUInt32.toInt32))])) (fun _ zk => XS.i2c X0.here hx rfl (hb hby at_9) rfl zk) ?_
  obtain ⟨ca, hca⟩ : ∃ z, z = ((x1 &&& (65535 : Int32)).toUInt32.toUInt16.toUInt32.toInt32) := ⟨_, rfl⟩
  rw [← hca]
  have qca := own_c16 (x1 &&& 65535)
  rw [← hca] at qca
  refine Go.st (T' := s₁) (g' := (mkF m 12 #[.val (.int x0), .val (.int x1), .val (.int x2), .val (.int x3), .val (.int n), .val (.int ca), .unset, .unset, .unset, .unset, .unset, .unset] [])) (fun _ zk => XS.istore X0.here hx rfl (hb hby at_10) rfl (l' := #[.val (.int x0), .val (.int x1), .val (.int x2), .val (.int x3), .val (.int n), .val (.int ca), .unset, .unset, .unset, .unset, .unset, .unset]) rfl zk) ?_
  refine Go.st (T' := s₁) (g' := (mkF m 13 #[.val (.int x0), .val (.int x1), .val (.int x2), .val (.int x3), .val (.int n), .val (.int ca), .unset, .unset, .unset, .unset, .unset, .unset] [(.int x2)])) (fun _ zk => XS.iloadN X0.here hx rfl (hb hby at_12) rfl zk) ?_
  refine Go.st (T' := s₁) (g' := (mkF m 15 #[.val (.int x0), .val (.int x1), .val (.int x2), .val (.int x3), .val (.int n), .val (.int ca), .unset, .unset, .unset, .unset, .unset, .unset] [(.int (65535 : Int32)), (.int x2)])) (fun _ zk => X0.ldcI hx hown (mvT hZ (w0 hw)) rfl (hb hby at_13) zk) ?_
  refine Go.st (T' := s₁) (g' := (mkF m 16 #[.val (.int x0), .val (.int x1), .val (.int x2), .val (.int x3), .val (.int n), .val (.int ca), .unset, .unset, .unset, .unset, .unset, .unset] [(.int (x2 &&& (65535 : Int32)))])) (fun _ zk => XS.iand X0.here hx rfl (hb hby at_15) rfl zk) ?_
  refine Go.st (T' := s₁) (g' := (mkF m 17 #[.val (.int x0), .val (.int x1), .val (.int x2), .val (.int x3), .val (.int n), .val (.int ca), .unset, .unset, .unset, .unset, .unset, .unset] [(.int ((x2 &&& (65535 : Int32)).toUInt32.toUInt16.toUInt32.toInt32))])) (fun _ zk => XS.i2c X0.here hx rfl (hb hby at_16) rfl zk) ?_
  obtain ⟨cb, hcb⟩ : ∃ z, z = ((x2 &&& (65535 : Int32)).toUInt32.toUInt16.toUInt32.toInt32) := ⟨_, rfl⟩
  rw [← hcb]
  have qcb := own_c16 (x2 &&& 65535)
  rw [← hcb] at qcb
  refine Go.st (T' := s₁) (g' := (mkF m 19 #[.val (.int x0), .val (.int x1), .val (.int x2), .val (.int x3), .val (.int n), .val (.int ca), .val (.int cb), .unset, .unset, .unset, .unset, .unset] [])) (fun _ zk => XS.istore X0.here hx rfl (hb hby at_17) rfl (l' := #[.val (.int x0), .val (.int x1), .val (.int x2), .val (.int x3), .val (.int n), .val (.int ca), .val (.int cb), .unset, .unset, .unset, .unset, .unset]) rfl zk) ?_
  refine Go.st (T' := s₁) (g' := (mkF m 20 #[.val (.int x0), .val (.int x1), .val (.int x2), .val (.int x3), .val (.int n), .val (.int ca), .val (.int cb), .unset, .unset, .unset, .unset, .unset] [(.int x3)])) (fun _ zk => XS.iloadN X0.here hx rfl (hb hby at_19) rfl zk) ?_
  refine Go.st (T' := s₁) (g' := (mkF m 22 #[.val (.int x0), .val (.int x1), .val (.int x2), .val (.int x3), .val (.int n), .val (.int ca), .val (.int cb), .unset, .unset, .unset, .unset, .unset] [(.int (65535 : Int32)), (.int x3)])) (fun _ zk => X0.ldcI hx hown (mvT hZ (w0 hw)) rfl (hb hby at_20) zk) ?_
  refine Go.st (T' := s₁) (g' := (mkF m 23 #[.val (.int x0), .val (.int x1), .val (.int x2), .val (.int x3), .val (.int n), .val (.int ca), .val (.int cb), .unset, .unset, .unset, .unset, .unset] [(.int (x3 &&& (65535 : Int32)))])) (fun _ zk => XS.iand X0.here hx rfl (hb hby at_22) rfl zk) ?_
  refine Go.st (T' := s₁) (g' := (mkF m 24 #[.val (.int x0), .val (.int x1), .val (.int x2), .val (.int x3), .val (.int n), .val (.int ca), .val (.int cb), .unset, .unset, .unset, .unset, .unset] [(.int ((x3 &&& (65535 : Int32)).toUInt32.toUInt16.toUInt32.toInt32))])) (fun _ zk => XS.i2c X0.here hx rfl (hb hby at_23) rfl zk) ?_
  obtain ⟨cc, hcc⟩ : ∃ z, z = ((x3 &&& (65535 : Int32)).toUInt32.toUInt16.toUInt32.toInt32) := ⟨_, rfl⟩
  rw [← hcc]
  have qcc := own_c16 (x3 &&& 65535)
  rw [← hcc] at qcc
  refine Go.st (T' := s₁) (g' := (mkF m 26 #[.val (.int x0), .val (.int x1), .val (.int x2), .val (.int x3), .val (.int n), .val (.int ca), .val (.int cb), .val (.int cc), .unset, .unset, .unset, .unset] [])) (fun _ zk => XS.istore X0.here hx rfl (hb hby at_24) rfl (l' := #[.val (.int x0), .val (.int x1), .val (.int x2), .val (.int x3), .val (.int n), .val (.int ca), .val (.int cb), .val (.int cc), .unset, .unset, .unset, .unset]) rfl zk) ?_
  refine Go.st (T' := s₁) (g' := (mkF m 28 #[.val (.int x0), .val (.int x1), .val (.int x2), .val (.int x3), .val (.int n), .val (.int ca), .val (.int cb), .val (.int cc), .unset, .unset, .unset, .unset] [(.int n)])) (fun _ zk => XS.iload X0.here hx rfl (hb hby at_26) rfl zk) ?_
  refine Go.st (T' := s₁) (g' := (mkF m 30 #[.val (.int x0), .val (.int x1), .val (.int x2), .val (.int x3), .val (.int n), .val (.int ca), .val (.int cb), .val (.int cc), .unset, .unset, .unset, .unset] [(.int ca), (.int n)])) (fun _ zk => XS.iload X0.here hx rfl (hb hby at_28) rfl zk) ?_
  refine Go.st (T' := s₁) (g' := (mkF m 32 #[.val (.int x0), .val (.int x1), .val (.int x2), .val (.int x3), .val (.int n), .val (.int ca), .val (.int cb), .val (.int cc), .unset, .unset, .unset, .unset] [(.int cb), (.int ca), (.int n)])) (fun _ zk => XS.iload X0.here hx rfl (hb hby at_30) rfl zk) ?_
  refine Go.st (T' := s₁) (g' := (mkF m 34 #[.val (.int x0), .val (.int x1), .val (.int x2), .val (.int x3), .val (.int n), .val (.int ca), .val (.int cb), .val (.int cc), .unset, .unset, .unset, .unset] [(.int cc), (.int cb), (.int ca), (.int n)])) (fun _ zk => XS.iload X0.here hx rfl (hb hby at_32) rfl zk) ?_
  refine Go.callStS (y := (⟨"com/example/payment_retry_queue/paymentretryqueue/AttemptAnswerSucceededPinLaw", "make", "(ICCC)Ljava/lang/String;"⟩ : MethodName)) X0 hx hZ hown e0 hEL hA.1 hS (Nat.zero_le _) (w1 hw) (w2 hw) (w3 hw) (w4 hw) (by decide) (argsL := [(.int n), (.int ca), (.int cb), (.int cc)]) (rest := []) (W := 0) (rm_mk l Z a0 hw [] n ca cb cc zc h0 n0 Z0 O0 CS hz UA UH UL qca qcb qcc) all0 rfl (lenOf pd27 rfl) rfl (by rw [hml]; rfl) rfl (by show 2 * 0 + _ ≤ _; exact Nat.le_of_eq rfl) (by decide) (by decide) (by decide) (by decide) (hb hby at_34) ?_
  intro v1 T1 h1 L1 X1 e1 q1 hS hZ hown cr1
  obtain ⟨u, hv1, Nf1, E1, ge1, S1⟩ := q1
  subst hv1
  have N1 := Fr.app N0 Nf1
  have Eu := S1.exa
  have ca2 := hA.trans cr1
  show Go p.tables e below _ T1 (mkF m 37 #[.val (.int x0), .val (.int x1), .val (.int x2), .val (.int x3), .val (.int n), .val (.int ca), .val (.int cb), .val (.int cc), .unset, .unset, .unset, .unset] [(.ref u)])
  refine Go.st (T' := T1) (g' := (mkF m 39 #[.val (.int x0), .val (.int x1), .val (.int x2), .val (.int x3), .val (.int n), .val (.int ca), .val (.int cb), .val (.int cc), .val (.ref u), .unset, .unset, .unset] [])) (fun _ zk => XS.astore X1.here hx rfl (hb hby at_37) rfl rfl (l' := #[.val (.int x0), .val (.int x1), .val (.int x2), .val (.int x3), .val (.int n), .val (.int ca), .val (.int cb), .val (.int cc), .val (.ref u), .unset, .unset, .unset]) rfl zk) ?_
  refine Go.st (T' := T1) (g' := (mkF m 41 #[.val (.int x0), .val (.int x1), .val (.int x2), .val (.int x3), .val (.int n), .val (.int ca), .val (.int cb), .val (.int cc), .val (.ref u), .unset, .unset, .unset] [(.ref u)])) (fun _ zk => XS.aload X1.here hx rfl (hb hby at_39) rfl rfl zk) ?_
  have xt4 : Ext h0 h1 := E1
  have f5 := O0.ext xt4
  refine Go.callStS (y := (⟨"com/example/payment_retry_queue/paymentretryqueue/AttemptAnswer", "succeeded", "(Ljava/lang/String;)Lcom/example/payment_retry_queue/paymentretryqueue/AttemptAnswer;"⟩ : MethodName)) X1 hx hZ hown e1 hEL ca2.1 hS (Nat.le_refl _) (w27 hw) (w28 hw) (w29 hw) (w30 hw) (by decide) (argsL := [(.ref u)]) (rest := []) (W := 0) (rm_succ l Z a0 hw [] u kk h1 n0 (Nat.le_trans Z0 E1.1) f5 Eu SK) all0 rfl (lenOf pd28 rfl) rfl (by rw [hml]; rfl) rfl (by show 2 * 0 + _ ≤ _; exact Nat.le_of_eq rfl) (by decide) (by decide) (by decide) (by decide) (hb hby at_41) ?_
  intro v3 T3 h3 L3 X3 e3 q3 hS hZ hown cr3
  obtain ⟨a3, hv3, Nf3, E3, ge3, A3, F13, F23, F33⟩ := q3
  subst hv3
  have N3 := Fr.app N1 Nf3
  have ca6 := ca2.trans cr3
  show Go p.tables e below _ T3 (mkF m 44 #[.val (.int x0), .val (.int x1), .val (.int x2), .val (.int x3), .val (.int n), .val (.int ca), .val (.int cb), .val (.int cc), .val (.ref u), .unset, .unset, .unset] [(.ref a3)])
  refine Go.st (T' := T3) (g' := (mkF m 46 #[.val (.int x0), .val (.int x1), .val (.int x2), .val (.int x3), .val (.int n), .val (.int ca), .val (.int cb), .val (.int cc), .val (.ref u), .val (.ref a3), .unset, .unset] [])) (fun _ zk => XS.astore X3.here hx rfl (hb hby at_44) rfl rfl (l' := #[.val (.int x0), .val (.int x1), .val (.int x2), .val (.int x3), .val (.int n), .val (.int ca), .val (.int cb), .val (.int cc), .val (.ref u), .val (.ref a3), .unset, .unset]) rfl zk) ?_
  refine Go.st (T' := T3) (g' := (mkF m 48 #[.val (.int x0), .val (.int x1), .val (.int x2), .val (.int x3), .val (.int n), .val (.int ca), .val (.int cb), .val (.int cc), .val (.ref u), .val (.ref a3), .unset, .unset] [(.ref a3)])) (fun _ zk => XS.aload X3.here hx rfl (hb hby at_46) rfl rfl zk) ?_
  refine Go.callV (y := (⟨"com/example/payment_retry_queue/paymentretryqueue/AttemptAnswer", "kind", "()Lcom/example/payment_retry_queue/paymentretryqueue/AttemptAnswer$Kind;"⟩ : MethodName)) (z := (⟨"com/example/payment_retry_queue/paymentretryqueue/AttemptAnswer", "kind", "()Lcom/example/payment_retry_queue/paymentretryqueue/AttemptAnswer$Kind;"⟩ : MethodName)) (C := "com/example/payment_retry_queue/paymentretryqueue/AttemptAnswer") (a := a3) X3 hx hZ hown e3 (w52 hw) (w53 hw) (w55 hw) (w54 hw) (w29 hw) (w56 hw) (notFace_of_selects (args := #[]) (mvT hZ (w55 hw))) (by decide) A3 (argsL := []) (rest := []) (W := 0) (rm_kind l Z a0 hw [] a3 kk h3 n0 (Nat.le_trans Z0 (Nat.le_trans E1.1 E3.1)) F13) rfl (lenOf pd29 rfl) rfl (by rw [hml]; rfl) rfl (by show 2 * 0 + _ ≤ _; exact Nat.le_of_eq rfl) (by decide) (by decide) (by decide) (by decide) (hb hby at_48) ?_
  intro v7 T7 h7 L7 X7 e7 q7
  obtain ⟨hv7, Nf7, hh7⟩ := q7
  subst hv7
  have E7 : T7.heap = h3 := e7.trans hh7
  have N7 := Fr.app N3 Nf7
  show Go p.tables e below _ T7 (mkF m 51 #[.val (.int x0), .val (.int x1), .val (.int x2), .val (.int x3), .val (.int n), .val (.int ca), .val (.int cb), .val (.int cc), .val (.ref u), .val (.ref a3), .unset, .unset] [(.ref kk)])
  have xt9 : Ext h1 h3 := E3
  have f10 := f5.ext xt9
  obtain ⟨T8, X8, e8, st8⟩ := getS2 X7 hx hZ hown (host := "") (Or.inl (w57 hw)) Via.refl E7 (SK.ext f10.2) (g := (mkF m 51 #[.val (.int x0), .val (.int x1), .val (.int x2), .val (.int x3), .val (.int n), .val (.int ca), .val (.int cb), .val (.int cc), .val (.ref u), .val (.ref a3), .unset, .unset] [(.ref kk)])) rfl (hb hby at_51)
  refine Go.st (T' := T8) (g' := (mkF m 54 #[.val (.int x0), .val (.int x1), .val (.int x2), .val (.int x3), .val (.int n), .val (.int ca), .val (.int cb), .val (.int cc), .val (.ref u), .val (.ref a3), .unset, .unset] [(.ref kk), (.ref kk)])) (fun _ zk => st8 _ zk) ?_
  refine Go.st (T' := T8) (g' := (mkF m 59 #[.val (.int x0), .val (.int x1), .val (.int x2), .val (.int x3), .val (.int n), .val (.int ca), .val (.int cb), .val (.int cc), .val (.ref u), .val (.ref a3), .unset, .unset] [])) (fun _ zk => Jvm.RoadKit.acmp (g := (mkF m 54 #[.val (.int x0), .val (.int x1), .val (.int x2), .val (.int x3), .val (.int n), .val (.int ca), .val (.int cb), .val (.int cc), .val (.ref u), .val (.ref a3), .unset, .unset] [(.ref kk), (.ref kk)])) X8 hx rfl rfl rfl (pc0 := 54) (pc' := 59) (same := true) rfl (hb hby at_54) rfl (decide_eq_true rfl) (by decide) (by decide) zk) ?_
  refine Go.st (T' := T8) (g' := (mkF m 61 #[.val (.int x0), .val (.int x1), .val (.int x2), .val (.int x3), .val (.int n), .val (.int ca), .val (.int cb), .val (.int cc), .val (.ref u), .val (.ref a3), .unset, .unset] [(.ref a3)])) (fun _ zk => XS.aload X8.here hx rfl (hb hby at_59) rfl rfl zk) ?_
  refine Go.callV (y := (⟨"com/example/payment_retry_queue/paymentretryqueue/AttemptAnswer", "reference", "()Ljava/util/Optional;"⟩ : MethodName)) (z := (⟨"com/example/payment_retry_queue/paymentretryqueue/AttemptAnswer", "reference", "()Ljava/util/Optional;"⟩ : MethodName)) (C := "com/example/payment_retry_queue/paymentretryqueue/AttemptAnswer") (a := a3) X8 hx hZ hown e8 (w58 hw) (w59 hw) (w61 hw) (w60 hw) (w29 hw) (w62 hw) (notFace_of_selects (args := #[]) (mvT hZ (w61 hw))) (by decide) A3 (argsL := []) (rest := []) (W := 0) (rm_refr l Z a0 hw [] a3 u h3 n0 (Nat.le_trans Z0 (Nat.le_trans E1.1 E3.1)) F23) rfl (lenOf pd30 rfl) rfl (by rw [hml]; rfl) rfl (by show 2 * 0 + _ ≤ _; exact Nat.le_of_eq rfl) (by decide) (by decide) (by decide) (by decide) (hb hby at_61) ?_
  intro v11 T11 h11 L11 X11 e11 q11
  obtain ⟨o11, hv11, Nf11, E11, ge11, A11, F11⟩ := q11
  subst hv11
  have N11 := Fr.app N7 Nf11
  show Go p.tables e below _ T11 (mkF m 64 #[.val (.int x0), .val (.int x1), .val (.int x2), .val (.int x3), .val (.int n), .val (.int ca), .val (.int cb), .val (.int cc), .val (.ref u), .val (.ref a3), .unset, .unset] [(.ref o11)])
  refine Go.st (T' := T11) (g' := (mkF m 66 #[.val (.int x0), .val (.int x1), .val (.int x2), .val (.int x3), .val (.int n), .val (.int ca), .val (.int cb), .val (.int cc), .val (.ref u), .val (.ref a3), .val (.ref o11), .unset] [])) (fun _ zk => XS.astore X11.here hx rfl (hb hby at_64) rfl rfl (l' := #[.val (.int x0), .val (.int x1), .val (.int x2), .val (.int x3), .val (.int n), .val (.int ca), .val (.int cb), .val (.int cc), .val (.ref u), .val (.ref a3), .val (.ref o11), .unset]) rfl zk) ?_
  refine Go.st (T' := T11) (g' := (mkF m 68 #[.val (.int x0), .val (.int x1), .val (.int x2), .val (.int x3), .val (.int n), .val (.int ca), .val (.int cb), .val (.int cc), .val (.ref u), .val (.ref a3), .val (.ref o11), .unset] [(.ref o11)])) (fun _ zk => XS.aload X11.here hx rfl (hb hby at_66) rfl rfl zk) ?_
  refine Go.callV (y := (⟨"java/util/Optional", "isPresent", "()Z"⟩ : MethodName)) (z := (⟨"java/util/Optional", "isPresent", "()Z"⟩ : MethodName)) (C := "java/util/Optional") (a := o11) X11 hx hZ hown e11 (w76 hw) (w77 hw) (w79 hw) (w78 hw) (w65 hw) (w80 hw) (notFace_of_selects (args := #[]) (mvT hZ (w79 hw))) (by decide) A11 (argsL := []) (rest := []) (W := 0) (rm_isPr1 l Z a0 hw [] o11 u h11 n0 (Nat.le_trans Z0 (Nat.le_trans (Nat.le_trans E1.1 E3.1) E11.1)) F11) rfl (lenOf pd15 rfl) rfl (by rw [hml]; rfl) rfl (by show 2 * 0 + _ ≤ _; exact Nat.le_of_eq rfl) (by decide) (by decide) (by decide) (by decide) (hb hby at_68) ?_
  intro v12 T12 h12 L12 X12 e12 q12
  obtain ⟨hv12, Nf12, hh12⟩ := q12
  subst hv12
  have E12 : T12.heap = h11 := e12.trans hh12
  have N12 := Fr.app N11 Nf12
  show Go p.tables e below _ T12 (mkF m 71 #[.val (.int x0), .val (.int x1), .val (.int x2), .val (.int x3), .val (.int n), .val (.int ca), .val (.int cb), .val (.int cc), .val (.ref u), .val (.ref a3), .val (.ref o11), .unset] [(.int (1 : Int32))])
  refine Go.st (T' := T12) (g' := (mkF m 76 #[.val (.int x0), .val (.int x1), .val (.int x2), .val (.int x3), .val (.int n), .val (.int ca), .val (.int cb), .val (.int cc), .val (.ref u), .val (.ref a3), .val (.ref o11), .unset] [])) (fun _ zk => XS.ifYes X12.here hx rfl (pc0 := 71) (pc' := 76) rfl (hb hby at_71) rfl ((if0 _ _).trans (feq ((by decide) : ¬ ((1 : Int32) = (0 : Int32)))).2) (by decide) (by decide) zk) ?_
  refine Go.st (T' := T12) (g' := (mkF m 78 #[.val (.int x0), .val (.int x1), .val (.int x2), .val (.int x3), .val (.int n), .val (.int ca), .val (.int cb), .val (.int cc), .val (.ref u), .val (.ref a3), .val (.ref o11), .unset] [(.ref o11)])) (fun _ zk => XS.aload X12.here hx rfl (hb hby at_76) rfl rfl zk) ?_
  refine Go.callV (y := (⟨"java/util/Optional", "get", "()Ljava/lang/Object;"⟩ : MethodName)) (z := (⟨"java/util/Optional", "get", "()Ljava/lang/Object;"⟩ : MethodName)) (C := "java/util/Optional") (a := o11) X12 hx hZ hown E12 (w81 hw) (w82 hw) (w84 hw) (w83 hw) (w65 hw) (w85 hw) (notFace_of_selects (args := #[]) (mvT hZ (w84 hw))) (by decide) A11 (argsL := []) (rest := []) (W := 0) (rm_oget l Z a0 hw [] o11 u h11 n0 (Nat.le_trans Z0 (Nat.le_trans (Nat.le_trans E1.1 E3.1) E11.1)) F11) rfl (lenOf pd31 rfl) rfl (by rw [hml]; rfl) rfl (by show 2 * 0 + _ ≤ _; exact Nat.le_of_eq rfl) (by decide) (by decide) (by decide) (by decide) (hb hby at_78) ?_
  intro v13 T13 h13 L13 X13 e13 q13
  obtain ⟨hv13, Nf13, hh13⟩ := q13
  subst hv13
  have E13 : T13.heap = h11 := e13.trans hh13
  have N13 := Fr.app N12 Nf13
  show Go p.tables e below _ T13 (mkF m 81 #[.val (.int x0), .val (.int x1), .val (.int x2), .val (.int x3), .val (.int n), .val (.int ca), .val (.int cb), .val (.int cc), .val (.ref u), .val (.ref a3), .val (.ref o11), .unset] [(.ref u)])
  have xt14 : Ext h1 h11 := (xt9.tr E11)
  have f15 := Eu.ext xt14
  obtain ⟨T16, X16, e16, st16⟩ := castY X13 hx hZ hown (w5 hw) E13 (Ins.self f15) (g := (mkF m 81 #[.val (.int x0), .val (.int x1), .val (.int x2), .val (.int x3), .val (.int n), .val (.int ca), .val (.int cb), .val (.int cc), .val (.ref u), .val (.ref a3), .val (.ref o11), .unset] [(.ref u)])) rfl rfl (hb hby at_81)
  refine Go.st (T' := T16) (g' := (mkF m 84 #[.val (.int x0), .val (.int x1), .val (.int x2), .val (.int x3), .val (.int n), .val (.int ca), .val (.int cb), .val (.int cc), .val (.ref u), .val (.ref a3), .val (.ref o11), .unset] [(.ref u)])) (fun _ zk => st16 _ zk) ?_
  refine Go.st (T' := T16) (g' := (mkF m 86 #[.val (.int x0), .val (.int x1), .val (.int x2), .val (.int x3), .val (.int n), .val (.int ca), .val (.int cb), .val (.int cc), .val (.ref u), .val (.ref a3), .val (.ref o11), .val (.ref u)] [])) (fun _ zk => XS.astore X16.here hx rfl (hb hby at_84) rfl rfl (l' := #[.val (.int x0), .val (.int x1), .val (.int x2), .val (.int x3), .val (.int n), .val (.int ca), .val (.int cb), .val (.int cc), .val (.ref u), .val (.ref a3), .val (.ref o11), .val (.ref u)]) rfl zk) ?_
  refine Go.st (T' := T16) (g' := (mkF m 88 #[.val (.int x0), .val (.int x1), .val (.int x2), .val (.int x3), .val (.int n), .val (.int ca), .val (.int cb), .val (.int cc), .val (.ref u), .val (.ref a3), .val (.ref o11), .val (.ref u)] [(.ref u)])) (fun _ zk => XS.aload X16.here hx rfl (hb hby at_86) rfl rfl zk) ?_
  refine Go.st (T' := T16) (g' := (mkF m 90 #[.val (.int x0), .val (.int x1), .val (.int x2), .val (.int x3), .val (.int n), .val (.int ca), .val (.int cb), .val (.int cc), .val (.ref u), .val (.ref a3), .val (.ref o11), .val (.ref u)] [(.ref u), (.ref u)])) (fun _ zk => XS.aload X16.here hx rfl (hb hby at_88) rfl rfl zk) ?_
  refine Go.callV (y := (⟨"java/lang/String", "equals", "(Ljava/lang/Object;)Z"⟩ : MethodName)) (z := (⟨"java/lang/String", "equals", "(Ljava/lang/Object;)Z"⟩ : MethodName)) (C := "java/lang/String") (a := u) X16 hx hZ hown e16 (w86 hw) (w87 hw) (w89 hw) (w88 hw) (w7 hw) (w90 hw) (notFace_of_selects (args := #[]) (mvT hZ (w89 hw))) (by decide) f15 (argsL := [(.ref u)]) (rest := []) (W := 0) (rm_eqId l Z a0 hw [] u h11 n0 (Nat.le_trans Z0 (Nat.le_trans (Nat.le_trans E1.1 E3.1) E11.1)) ) rfl (lenOf pd32 rfl) rfl (by rw [hml]; rfl) rfl (by show 2 * 0 + _ ≤ _; exact Nat.le_of_eq rfl) (by decide) (by decide) (by decide) (by decide) (hb hby at_90) ?_
  intro v17 T17 h17 L17 X17 e17 q17
  obtain ⟨hv17, Nf17, hh17⟩ := q17
  subst hv17
  have E17 : T17.heap = h11 := e17.trans hh17
  have N17 := Fr.app N13 Nf17
  show Go p.tables e below _ T17 (mkF m 93 #[.val (.int x0), .val (.int x1), .val (.int x2), .val (.int x3), .val (.int n), .val (.int ca), .val (.int cb), .val (.int cc), .val (.ref u), .val (.ref a3), .val (.ref o11), .val (.ref u)] [(.int (1 : Int32))])
  refine Go.st (T' := T17) (g' := (mkF m 98 #[.val (.int x0), .val (.int x1), .val (.int x2), .val (.int x3), .val (.int n), .val (.int ca), .val (.int cb), .val (.int cc), .val (.ref u), .val (.ref a3), .val (.ref o11), .val (.ref u)] [])) (fun _ zk => XS.ifYes X17.here hx rfl (pc0 := 93) (pc' := 98) rfl (hb hby at_93) rfl ((if0 _ _).trans (feq ((by decide) : ¬ ((1 : Int32) = (0 : Int32)))).2) (by decide) (by decide) zk) ?_
  refine Go.st (T' := T17) (g' := (mkF m 100 #[.val (.int x0), .val (.int x1), .val (.int x2), .val (.int x3), .val (.int n), .val (.int ca), .val (.int cb), .val (.int cc), .val (.ref u), .val (.ref a3), .val (.ref o11), .val (.ref u)] [(.ref u)])) (fun _ zk => XS.aload X17.here hx rfl (hb hby at_98) rfl rfl zk) ?_
  have f18 := S1.ext xt14
  have xt20 : Ext h3 h11 := E11
  have f21 := f10.ext xt20
  refine Go.callV (y := (⟨"java/lang/String", "length", "()I"⟩ : MethodName)) (z := (⟨"java/lang/String", "length", "()I"⟩ : MethodName)) (C := "java/lang/String") (a := u) X17 hx hZ hown E17 (w91 hw) (w92 hw) (w94 hw) (w93 hw) (w7 hw) (w95 hw) (notFace_of_selects (args := #[]) (mvT hZ (w94 hw))) (by decide) f15 (argsL := []) (rest := []) (W := 0) (rm_lengthW l Z a0 hw [] u (chs n ca cb cc) (chs n ca cb cc).length zc h11 n0 (Nat.le_trans Z0 (Nat.le_trans (Nat.le_trans E1.1 E3.1) E11.1)) f21 f18 (own_chl _ _ _ _) CS hz) rfl (lenOf pd33 rfl) rfl (by rw [hml]; rfl) rfl (by show 2 * 0 + _ ≤ _; exact Nat.le_of_eq rfl) (by decide) (by decide) (by decide) (by decide) (hb hby at_100) ?_
  intro v19 T19 h19 L19 X19 e19 q19
  obtain ⟨hv19, Nf19, hh19⟩ := q19
  subst hv19
  have E19 : T19.heap = h11 := e19.trans hh19
  have N19 := Fr.app N17 Nf19
  show Go p.tables e below _ T19 (mkF m 103 #[.val (.int x0), .val (.int x1), .val (.int x2), .val (.int x3), .val (.int n), .val (.int ca), .val (.int cb), .val (.int cc), .val (.ref u), .val (.ref a3), .val (.ref o11), .val (.ref u)] [(.int (Int32.ofNat (chs n ca cb cc).length))])
  refine Go.st (T' := T19) (g' := (mkF m 105 #[.val (.int x0), .val (.int x1), .val (.int x2), .val (.int x3), .val (.int n), .val (.int ca), .val (.int cb), .val (.int cc), .val (.ref u), .val (.ref a3), .val (.ref o11), .val (.ref u)] [(.int n), (.int (Int32.ofNat (chs n ca cb cc).length))])) (fun _ zk => XS.iload X19.here hx rfl (hb hby at_103) rfl zk) ?_
  refine Go.st (T' := T19) (g' := (mkF m 110 #[.val (.int x0), .val (.int x1), .val (.int x2), .val (.int x3), .val (.int n), .val (.int ca), .val (.int cb), .val (.int cc), .val (.ref u), .val (.ref a3), .val (.ref o11), .val (.ref u)] [])) (fun _ zk => XS.icmpYes X19.here hx rfl (pc0 := 105) (pc' := 110) rfl (hb hby at_105) rfl (teq (own_chlen qn : (Int32.ofNat (chs n ca cb cc).length) = n)).1 (by decide) (by decide) zk) ?_
  rcases own_4 qn with rfl | rfl | rfl | rfl
  · refine Go.st (T' := T19) (g' := (mkF m 112 #[.val (.int x0), .val (.int x1), .val (.int x2), .val (.int x3), .val (.int (0 : Int32)), .val (.int ca), .val (.int cb), .val (.int cc), .val (.ref u), .val (.ref a3), .val (.ref o11), .val (.ref u)] [(.int (0 : Int32))])) (fun _ zk => XS.iload X19.here hx rfl (hb hby at_110) rfl zk) ?_
    refine Go.st (T' := T19) (g' := (mkF m 113 #[.val (.int x0), .val (.int x1), .val (.int x2), .val (.int x3), .val (.int (0 : Int32)), .val (.int ca), .val (.int cb), .val (.int cc), .val (.ref u), .val (.ref a3), .val (.ref o11), .val (.ref u)] [(.int (1 : Int32)), (.int (0 : Int32))])) (fun _ zk => XS.iconst X19.here hx rfl (hb hby at_112) zk) ?_
    refine Go.st (T' := T19) (g' := (mkF m 129 #[.val (.int x0), .val (.int x1), .val (.int x2), .val (.int x3), .val (.int (0 : Int32)), .val (.int ca), .val (.int cb), .val (.int cc), .val (.ref u), .val (.ref a3), .val (.ref o11), .val (.ref u)] [])) (fun _ zk => XS.icmpYes X19.here hx rfl (pc0 := 113) (pc' := 129) rfl (hb hby at_113) rfl (tlt ((by decide) : (0 : Int32) < (1 : Int32))).1 (by decide) (by decide) zk) ?_
    refine Go.st (T' := T19) (g' := (mkF m 131 #[.val (.int x0), .val (.int x1), .val (.int x2), .val (.int x3), .val (.int (0 : Int32)), .val (.int ca), .val (.int cb), .val (.int cc), .val (.ref u), .val (.ref a3), .val (.ref o11), .val (.ref u)] [(.int (0 : Int32))])) (fun _ zk => XS.iload X19.here hx rfl (hb hby at_129) rfl zk) ?_
    refine Go.st (T' := T19) (g' := (mkF m 132 #[.val (.int x0), .val (.int x1), .val (.int x2), .val (.int x3), .val (.int (0 : Int32)), .val (.int ca), .val (.int cb), .val (.int cc), .val (.ref u), .val (.ref a3), .val (.ref o11), .val (.ref u)] [(.int (2 : Int32)), (.int (0 : Int32))])) (fun _ zk => XS.iconst X19.here hx rfl (hb hby at_131) zk) ?_
    refine Go.st (T' := T19) (g' := (mkF m 148 #[.val (.int x0), .val (.int x1), .val (.int x2), .val (.int x3), .val (.int (0 : Int32)), .val (.int ca), .val (.int cb), .val (.int cc), .val (.ref u), .val (.ref a3), .val (.ref o11), .val (.ref u)] [])) (fun _ zk => XS.icmpYes X19.here hx rfl (pc0 := 132) (pc' := 148) rfl (hb hby at_132) rfl (tlt ((by decide) : (0 : Int32) < (2 : Int32))).1 (by decide) (by decide) zk) ?_
    refine Go.st (T' := T19) (g' := (mkF m 150 #[.val (.int x0), .val (.int x1), .val (.int x2), .val (.int x3), .val (.int (0 : Int32)), .val (.int ca), .val (.int cb), .val (.int cc), .val (.ref u), .val (.ref a3), .val (.ref o11), .val (.ref u)] [(.int (0 : Int32))])) (fun _ zk => XS.iload X19.here hx rfl (hb hby at_148) rfl zk) ?_
    refine Go.st (T' := T19) (g' := (mkF m 151 #[.val (.int x0), .val (.int x1), .val (.int x2), .val (.int x3), .val (.int (0 : Int32)), .val (.int ca), .val (.int cb), .val (.int cc), .val (.ref u), .val (.ref a3), .val (.ref o11), .val (.ref u)] [(.int (3 : Int32)), (.int (0 : Int32))])) (fun _ zk => XS.iconst X19.here hx rfl (hb hby at_150) zk) ?_
    refine Go.st (T' := T19) (g' := (mkF m 167 #[.val (.int x0), .val (.int x1), .val (.int x2), .val (.int x3), .val (.int (0 : Int32)), .val (.int ca), .val (.int cb), .val (.int cc), .val (.ref u), .val (.ref a3), .val (.ref o11), .val (.ref u)] [])) (fun _ zk => XS.icmpYes X19.here hx rfl (pc0 := 151) (pc' := 167) rfl (hb hby at_151) rfl (tlt ((by decide) : (0 : Int32) < (3 : Int32))).1 (by decide) (by decide) zk) ?_
    refine Go.st (T' := T19) (g' := (mkF m 169 #[.val (.int x0), .val (.int x1), .val (.int x2), .val (.int x3), .val (.int (0 : Int32)), .val (.int ca), .val (.int cb), .val (.int cc), .val (.ref u), .val (.ref a3), .val (.ref o11), .val (.ref u)] [(.ref a3)])) (fun _ zk => XS.aload X19.here hx rfl (hb hby at_167) rfl rfl zk) ?_
    have f22 := F33.ext xt20
    have f24 := A3.ext xt20
    refine Go.callV (y := (⟨"com/example/payment_retry_queue/paymentretryqueue/AttemptAnswer", "retryAfter", "()Ljava/util/Optional;"⟩ : MethodName)) (z := (⟨"com/example/payment_retry_queue/paymentretryqueue/AttemptAnswer", "retryAfter", "()Ljava/util/Optional;"⟩ : MethodName)) (C := "com/example/payment_retry_queue/paymentretryqueue/AttemptAnswer") (a := a3) X19 hx hZ hown E19 (w102 hw) (w103 hw) (w105 hw) (w104 hw) (w29 hw) (w106 hw) (notFace_of_selects (args := #[]) (mvT hZ (w105 hw))) (by decide) f24 (argsL := []) (rest := []) (W := 0) (rm_rtaf l Z a0 hw [] a3 em h11 n0 (Nat.le_trans Z0 (Nat.le_trans (Nat.le_trans E1.1 E3.1) E11.1)) f21 f22 EM) rfl (lenOf pd30 rfl) rfl (by rw [hml]; rfl) rfl (by show 2 * 0 + _ ≤ _; exact Nat.le_of_eq rfl) (by decide) (by decide) (by decide) (by decide) (hb hby at_169) ?_
    intro v23 T23 h23 L23 X23 e23 q23
    obtain ⟨hv23, Nf23, hh23⟩ := q23
    subst hv23
    have E23 : T23.heap = h11 := e23.trans hh23
    have N23 := Fr.app N19 Nf23
    show Go p.tables e below _ T23 (mkF m 172 #[.val (.int x0), .val (.int x1), .val (.int x2), .val (.int x3), .val (.int (0 : Int32)), .val (.int ca), .val (.int cb), .val (.int cc), .val (.ref u), .val (.ref a3), .val (.ref o11), .val (.ref u)] [(.ref em)])
    have EMx25 := EME.ext f21.2
    have EMf25 := EMF.ext f21.2
    refine Go.callV (y := (⟨"java/util/Optional", "isPresent", "()Z"⟩ : MethodName)) (z := (⟨"java/util/Optional", "isPresent", "()Z"⟩ : MethodName)) (C := "java/util/Optional") (a := em) X23 hx hZ hown E23 (w76 hw) (w77 hw) (w79 hw) (w78 hw) (w65 hw) (w80 hw) (notFace_of_selects (args := #[]) (mvT hZ (w79 hw))) (by decide) EMx25 (argsL := []) (rest := []) (W := 0) (rm_isPr0 l Z a0 hw [] em h11 n0 (Nat.le_trans Z0 (Nat.le_trans (Nat.le_trans E1.1 E3.1) E11.1)) EMf25) rfl (lenOf pd15 rfl) rfl (by rw [hml]; rfl) rfl (by show 2 * 0 + _ ≤ _; exact Nat.le_of_eq rfl) (by decide) (by decide) (by decide) (by decide) (hb hby at_172) ?_
    intro v26 T26 h26 L26 X26 e26 q26
    obtain ⟨hv26, Nf26, hh26⟩ := q26
    subst hv26
    have E26 : T26.heap = h11 := e26.trans hh26
    have N26 := Fr.app N23 Nf26
    show Go p.tables e below _ T26 (mkF m 175 #[.val (.int x0), .val (.int x1), .val (.int x2), .val (.int x3), .val (.int (0 : Int32)), .val (.int ca), .val (.int cb), .val (.int cc), .val (.ref u), .val (.ref a3), .val (.ref o11), .val (.ref u)] [(.int (0 : Int32))])
    refine Go.st (T' := T26) (g' := (mkF m 178 #[.val (.int x0), .val (.int x1), .val (.int x2), .val (.int x3), .val (.int (0 : Int32)), .val (.int ca), .val (.int cb), .val (.int cc), .val (.ref u), .val (.ref a3), .val (.ref o11), .val (.ref u)] [])) (fun _ zk => XS.ifNo X26.here hx rfl (hb hby at_175) rfl ((if0 _ _).trans (teq (rfl : (0 : Int32) = (0 : Int32))).2) zk) ?_
    refine Go.st (T' := T26) (g' := (mkF m 179 #[.val (.int x0), .val (.int x1), .val (.int x2), .val (.int x3), .val (.int (0 : Int32)), .val (.int ca), .val (.int cb), .val (.int cc), .val (.ref u), .val (.ref a3), .val (.ref o11), .val (.ref u)] [(.int (1 : Int32))])) (fun _ zk => XS.iconst X26.here hx rfl (hb hby at_178) zk) ?_
    refine Go.st (T' := T26) (g' := (mkF m 183 #[.val (.int x0), .val (.int x1), .val (.int x2), .val (.int x3), .val (.int (0 : Int32)), .val (.int ca), .val (.int cb), .val (.int cc), .val (.ref u), .val (.ref a3), .val (.ref o11), .val (.ref u)] [(.int (1 : Int32))])) (fun _ zk => XS.goto X26.here hx rfl (pc0 := 179) (pc' := 183) rfl (hb hby at_179) (by decide) (by decide) zk) ?_
    have cr27 := (chrE ca6 E11)
    refine Go.retNS X26 hx hlk hS (Nat.le_trans (Nat.le_refl _) E11.1) cr27 hZ hEL hret rfl (by simp) (hb hby at_183) (by decide) (by decide) E26 ?_
    exact ⟨rfl, N26⟩
  · refine Go.st (T' := T19) (g' := (mkF m 112 #[.val (.int x0), .val (.int x1), .val (.int x2), .val (.int x3), .val (.int (1 : Int32)), .val (.int ca), .val (.int cb), .val (.int cc), .val (.ref u), .val (.ref a3), .val (.ref o11), .val (.ref u)] [(.int (1 : Int32))])) (fun _ zk => XS.iload X19.here hx rfl (hb hby at_110) rfl zk) ?_
    refine Go.st (T' := T19) (g' := (mkF m 113 #[.val (.int x0), .val (.int x1), .val (.int x2), .val (.int x3), .val (.int (1 : Int32)), .val (.int ca), .val (.int cb), .val (.int cc), .val (.ref u), .val (.ref a3), .val (.ref o11), .val (.ref u)] [(.int (1 : Int32)), (.int (1 : Int32))])) (fun _ zk => XS.iconst X19.here hx rfl (hb hby at_112) zk) ?_
    refine Go.st (T' := T19) (g' := (mkF m 116 #[.val (.int x0), .val (.int x1), .val (.int x2), .val (.int x3), .val (.int (1 : Int32)), .val (.int ca), .val (.int cb), .val (.int cc), .val (.ref u), .val (.ref a3), .val (.ref o11), .val (.ref u)] [])) (fun _ zk => XS.icmpNo X19.here hx rfl (hb hby at_113) rfl (flt ((by decide) : ¬ ((1 : Int32) < (1 : Int32)))).1 zk) ?_
    refine Go.st (T' := T19) (g' := (mkF m 118 #[.val (.int x0), .val (.int x1), .val (.int x2), .val (.int x3), .val (.int (1 : Int32)), .val (.int ca), .val (.int cb), .val (.int cc), .val (.ref u), .val (.ref a3), .val (.ref o11), .val (.ref u)] [(.ref u)])) (fun _ zk => XS.aload X19.here hx rfl (hb hby at_116) rfl rfl zk) ?_
    refine Go.st (T' := T19) (g' := (mkF m 119 #[.val (.int x0), .val (.int x1), .val (.int x2), .val (.int x3), .val (.int (1 : Int32)), .val (.int ca), .val (.int cb), .val (.int cc), .val (.ref u), .val (.ref a3), .val (.ref o11), .val (.ref u)] [(.int (0 : Int32)), (.ref u)])) (fun _ zk => XS.iconst X19.here hx rfl (hb hby at_118) zk) ?_
    refine Go.callV (y := (⟨"java/lang/String", "charAt", "(I)C"⟩ : MethodName)) (z := (⟨"java/lang/String", "charAt", "(I)C"⟩ : MethodName)) (C := "java/lang/String") (a := u) X19 hx hZ hown E19 (w118 hw) (w119 hw) (w121 hw) (w120 hw) (w7 hw) (w122 hw) (notFace_of_selects (args := #[]) (mvT hZ (w121 hw))) (by decide) f15 (argsL := [(.int (0 : Int32))]) (rest := []) (W := 0) (rm_charAtW l Z a0 hw [] u (chs (1 : Int32) ca cb cc) (chs (1 : Int32) ca cb cc).length 0 zc fm h11 n0 (Nat.le_trans Z0 (Nat.le_trans (Nat.le_trans E1.1 E3.1) E11.1)) f21 f18 rfl (own_chl _ _ _ _) (own_chr qca qcb qcc) (by decide : 0 < 1) CS hz FM rf UA UH UL) rfl (lenOf pd34 rfl) rfl (by rw [hml]; rfl) rfl (by show 2 * 0 + _ ≤ _; exact Nat.le_of_eq rfl) (by decide) (by decide) (by decide) (by decide) (hb hby at_119) ?_
    intro v28 T28 h28 L28 X28 e28 q28
    obtain ⟨hv28, Nf28, hh28⟩ := q28
    subst hv28
    have E28 : T28.heap = h11 := e28.trans hh28
    have N28 := Fr.app N19 Nf28
    show Go p.tables e below _ T28 (mkF m 122 #[.val (.int x0), .val (.int x1), .val (.int x2), .val (.int x3), .val (.int (1 : Int32)), .val (.int ca), .val (.int cb), .val (.int cc), .val (.ref u), .val (.ref a3), .val (.ref o11), .val (.ref u)] [(.int ca)])
    refine Go.st (T' := T28) (g' := (mkF m 124 #[.val (.int x0), .val (.int x1), .val (.int x2), .val (.int x3), .val (.int (1 : Int32)), .val (.int ca), .val (.int cb), .val (.int cc), .val (.ref u), .val (.ref a3), .val (.ref o11), .val (.ref u)] [(.int ca), (.int ca)])) (fun _ zk => XS.iload X28.here hx rfl (hb hby at_122) rfl zk) ?_
    refine Go.st (T' := T28) (g' := (mkF m 129 #[.val (.int x0), .val (.int x1), .val (.int x2), .val (.int x3), .val (.int (1 : Int32)), .val (.int ca), .val (.int cb), .val (.int cc), .val (.ref u), .val (.ref a3), .val (.ref o11), .val (.ref u)] [])) (fun _ zk => XS.icmpYes X28.here hx rfl (pc0 := 124) (pc' := 129) rfl (hb hby at_124) rfl (teq (rfl : ca = ca)).1 (by decide) (by decide) zk) ?_
    refine Go.st (T' := T28) (g' := (mkF m 131 #[.val (.int x0), .val (.int x1), .val (.int x2), .val (.int x3), .val (.int (1 : Int32)), .val (.int ca), .val (.int cb), .val (.int cc), .val (.ref u), .val (.ref a3), .val (.ref o11), .val (.ref u)] [(.int (1 : Int32))])) (fun _ zk => XS.iload X28.here hx rfl (hb hby at_129) rfl zk) ?_
    refine Go.st (T' := T28) (g' := (mkF m 132 #[.val (.int x0), .val (.int x1), .val (.int x2), .val (.int x3), .val (.int (1 : Int32)), .val (.int ca), .val (.int cb), .val (.int cc), .val (.ref u), .val (.ref a3), .val (.ref o11), .val (.ref u)] [(.int (2 : Int32)), (.int (1 : Int32))])) (fun _ zk => XS.iconst X28.here hx rfl (hb hby at_131) zk) ?_
    refine Go.st (T' := T28) (g' := (mkF m 148 #[.val (.int x0), .val (.int x1), .val (.int x2), .val (.int x3), .val (.int (1 : Int32)), .val (.int ca), .val (.int cb), .val (.int cc), .val (.ref u), .val (.ref a3), .val (.ref o11), .val (.ref u)] [])) (fun _ zk => XS.icmpYes X28.here hx rfl (pc0 := 132) (pc' := 148) rfl (hb hby at_132) rfl (tlt ((by decide) : (1 : Int32) < (2 : Int32))).1 (by decide) (by decide) zk) ?_
    refine Go.st (T' := T28) (g' := (mkF m 150 #[.val (.int x0), .val (.int x1), .val (.int x2), .val (.int x3), .val (.int (1 : Int32)), .val (.int ca), .val (.int cb), .val (.int cc), .val (.ref u), .val (.ref a3), .val (.ref o11), .val (.ref u)] [(.int (1 : Int32))])) (fun _ zk => XS.iload X28.here hx rfl (hb hby at_148) rfl zk) ?_
    refine Go.st (T' := T28) (g' := (mkF m 151 #[.val (.int x0), .val (.int x1), .val (.int x2), .val (.int x3), .val (.int (1 : Int32)), .val (.int ca), .val (.int cb), .val (.int cc), .val (.ref u), .val (.ref a3), .val (.ref o11), .val (.ref u)] [(.int (3 : Int32)), (.int (1 : Int32))])) (fun _ zk => XS.iconst X28.here hx rfl (hb hby at_150) zk) ?_
    refine Go.st (T' := T28) (g' := (mkF m 167 #[.val (.int x0), .val (.int x1), .val (.int x2), .val (.int x3), .val (.int (1 : Int32)), .val (.int ca), .val (.int cb), .val (.int cc), .val (.ref u), .val (.ref a3), .val (.ref o11), .val (.ref u)] [])) (fun _ zk => XS.icmpYes X28.here hx rfl (pc0 := 151) (pc' := 167) rfl (hb hby at_151) rfl (tlt ((by decide) : (1 : Int32) < (3 : Int32))).1 (by decide) (by decide) zk) ?_
    refine Go.st (T' := T28) (g' := (mkF m 169 #[.val (.int x0), .val (.int x1), .val (.int x2), .val (.int x3), .val (.int (1 : Int32)), .val (.int ca), .val (.int cb), .val (.int cc), .val (.ref u), .val (.ref a3), .val (.ref o11), .val (.ref u)] [(.ref a3)])) (fun _ zk => XS.aload X28.here hx rfl (hb hby at_167) rfl rfl zk) ?_
    have f29 := F33.ext xt20
    have f31 := A3.ext xt20
    refine Go.callV (y := (⟨"com/example/payment_retry_queue/paymentretryqueue/AttemptAnswer", "retryAfter", "()Ljava/util/Optional;"⟩ : MethodName)) (z := (⟨"com/example/payment_retry_queue/paymentretryqueue/AttemptAnswer", "retryAfter", "()Ljava/util/Optional;"⟩ : MethodName)) (C := "com/example/payment_retry_queue/paymentretryqueue/AttemptAnswer") (a := a3) X28 hx hZ hown E28 (w102 hw) (w103 hw) (w105 hw) (w104 hw) (w29 hw) (w106 hw) (notFace_of_selects (args := #[]) (mvT hZ (w105 hw))) (by decide) f31 (argsL := []) (rest := []) (W := 0) (rm_rtaf l Z a0 hw [] a3 em h11 n0 (Nat.le_trans Z0 (Nat.le_trans (Nat.le_trans E1.1 E3.1) E11.1)) f21 f29 EM) rfl (lenOf pd30 rfl) rfl (by rw [hml]; rfl) rfl (by show 2 * 0 + _ ≤ _; exact Nat.le_of_eq rfl) (by decide) (by decide) (by decide) (by decide) (hb hby at_169) ?_
    intro v30 T30 h30 L30 X30 e30 q30
    obtain ⟨hv30, Nf30, hh30⟩ := q30
    subst hv30
    have E30 : T30.heap = h11 := e30.trans hh30
    have N30 := Fr.app N28 Nf30
    show Go p.tables e below _ T30 (mkF m 172 #[.val (.int x0), .val (.int x1), .val (.int x2), .val (.int x3), .val (.int (1 : Int32)), .val (.int ca), .val (.int cb), .val (.int cc), .val (.ref u), .val (.ref a3), .val (.ref o11), .val (.ref u)] [(.ref em)])
    have EMx32 := EME.ext f21.2
    have EMf32 := EMF.ext f21.2
    refine Go.callV (y := (⟨"java/util/Optional", "isPresent", "()Z"⟩ : MethodName)) (z := (⟨"java/util/Optional", "isPresent", "()Z"⟩ : MethodName)) (C := "java/util/Optional") (a := em) X30 hx hZ hown E30 (w76 hw) (w77 hw) (w79 hw) (w78 hw) (w65 hw) (w80 hw) (notFace_of_selects (args := #[]) (mvT hZ (w79 hw))) (by decide) EMx32 (argsL := []) (rest := []) (W := 0) (rm_isPr0 l Z a0 hw [] em h11 n0 (Nat.le_trans Z0 (Nat.le_trans (Nat.le_trans E1.1 E3.1) E11.1)) EMf32) rfl (lenOf pd15 rfl) rfl (by rw [hml]; rfl) rfl (by show 2 * 0 + _ ≤ _; exact Nat.le_of_eq rfl) (by decide) (by decide) (by decide) (by decide) (hb hby at_172) ?_
    intro v33 T33 h33 L33 X33 e33 q33
    obtain ⟨hv33, Nf33, hh33⟩ := q33
    subst hv33
    have E33 : T33.heap = h11 := e33.trans hh33
    have N33 := Fr.app N30 Nf33
    show Go p.tables e below _ T33 (mkF m 175 #[.val (.int x0), .val (.int x1), .val (.int x2), .val (.int x3), .val (.int (1 : Int32)), .val (.int ca), .val (.int cb), .val (.int cc), .val (.ref u), .val (.ref a3), .val (.ref o11), .val (.ref u)] [(.int (0 : Int32))])
    refine Go.st (T' := T33) (g' := (mkF m 178 #[.val (.int x0), .val (.int x1), .val (.int x2), .val (.int x3), .val (.int (1 : Int32)), .val (.int ca), .val (.int cb), .val (.int cc), .val (.ref u), .val (.ref a3), .val (.ref o11), .val (.ref u)] [])) (fun _ zk => XS.ifNo X33.here hx rfl (hb hby at_175) rfl ((if0 _ _).trans (teq (rfl : (0 : Int32) = (0 : Int32))).2) zk) ?_
    refine Go.st (T' := T33) (g' := (mkF m 179 #[.val (.int x0), .val (.int x1), .val (.int x2), .val (.int x3), .val (.int (1 : Int32)), .val (.int ca), .val (.int cb), .val (.int cc), .val (.ref u), .val (.ref a3), .val (.ref o11), .val (.ref u)] [(.int (1 : Int32))])) (fun _ zk => XS.iconst X33.here hx rfl (hb hby at_178) zk) ?_
    refine Go.st (T' := T33) (g' := (mkF m 183 #[.val (.int x0), .val (.int x1), .val (.int x2), .val (.int x3), .val (.int (1 : Int32)), .val (.int ca), .val (.int cb), .val (.int cc), .val (.ref u), .val (.ref a3), .val (.ref o11), .val (.ref u)] [(.int (1 : Int32))])) (fun _ zk => XS.goto X33.here hx rfl (pc0 := 179) (pc' := 183) rfl (hb hby at_179) (by decide) (by decide) zk) ?_
    have cr34 := (chrE ca6 E11)
    refine Go.retNS X33 hx hlk hS (Nat.le_trans (Nat.le_refl _) E11.1) cr34 hZ hEL hret rfl (by simp) (hb hby at_183) (by decide) (by decide) E33 ?_
    exact ⟨rfl, N33⟩
  · refine Go.st (T' := T19) (g' := (mkF m 112 #[.val (.int x0), .val (.int x1), .val (.int x2), .val (.int x3), .val (.int (2 : Int32)), .val (.int ca), .val (.int cb), .val (.int cc), .val (.ref u), .val (.ref a3), .val (.ref o11), .val (.ref u)] [(.int (2 : Int32))])) (fun _ zk => XS.iload X19.here hx rfl (hb hby at_110) rfl zk) ?_
    refine Go.st (T' := T19) (g' := (mkF m 113 #[.val (.int x0), .val (.int x1), .val (.int x2), .val (.int x3), .val (.int (2 : Int32)), .val (.int ca), .val (.int cb), .val (.int cc), .val (.ref u), .val (.ref a3), .val (.ref o11), .val (.ref u)] [(.int (1 : Int32)), (.int (2 : Int32))])) (fun _ zk => XS.iconst X19.here hx rfl (hb hby at_112) zk) ?_
    refine Go.st (T' := T19) (g' := (mkF m 116 #[.val (.int x0), .val (.int x1), .val (.int x2), .val (.int x3), .val (.int (2 : Int32)), .val (.int ca), .val (.int cb), .val (.int cc), .val (.ref u), .val (.ref a3), .val (.ref o11), .val (.ref u)] [])) (fun _ zk => XS.icmpNo X19.here hx rfl (hb hby at_113) rfl (flt ((by decide) : ¬ ((2 : Int32) < (1 : Int32)))).1 zk) ?_
    refine Go.st (T' := T19) (g' := (mkF m 118 #[.val (.int x0), .val (.int x1), .val (.int x2), .val (.int x3), .val (.int (2 : Int32)), .val (.int ca), .val (.int cb), .val (.int cc), .val (.ref u), .val (.ref a3), .val (.ref o11), .val (.ref u)] [(.ref u)])) (fun _ zk => XS.aload X19.here hx rfl (hb hby at_116) rfl rfl zk) ?_
    refine Go.st (T' := T19) (g' := (mkF m 119 #[.val (.int x0), .val (.int x1), .val (.int x2), .val (.int x3), .val (.int (2 : Int32)), .val (.int ca), .val (.int cb), .val (.int cc), .val (.ref u), .val (.ref a3), .val (.ref o11), .val (.ref u)] [(.int (0 : Int32)), (.ref u)])) (fun _ zk => XS.iconst X19.here hx rfl (hb hby at_118) zk) ?_
    refine Go.callV (y := (⟨"java/lang/String", "charAt", "(I)C"⟩ : MethodName)) (z := (⟨"java/lang/String", "charAt", "(I)C"⟩ : MethodName)) (C := "java/lang/String") (a := u) X19 hx hZ hown E19 (w118 hw) (w119 hw) (w121 hw) (w120 hw) (w7 hw) (w122 hw) (notFace_of_selects (args := #[]) (mvT hZ (w121 hw))) (by decide) f15 (argsL := [(.int (0 : Int32))]) (rest := []) (W := 0) (rm_charAtW l Z a0 hw [] u (chs (2 : Int32) ca cb cc) (chs (2 : Int32) ca cb cc).length 0 zc fm h11 n0 (Nat.le_trans Z0 (Nat.le_trans (Nat.le_trans E1.1 E3.1) E11.1)) f21 f18 rfl (own_chl _ _ _ _) (own_chr qca qcb qcc) (by decide : 0 < 2) CS hz FM rf UA UH UL) rfl (lenOf pd34 rfl) rfl (by rw [hml]; rfl) rfl (by show 2 * 0 + _ ≤ _; exact Nat.le_of_eq rfl) (by decide) (by decide) (by decide) (by decide) (hb hby at_119) ?_
    intro v35 T35 h35 L35 X35 e35 q35
    obtain ⟨hv35, Nf35, hh35⟩ := q35
    subst hv35
    have E35 : T35.heap = h11 := e35.trans hh35
    have N35 := Fr.app N19 Nf35
    show Go p.tables e below _ T35 (mkF m 122 #[.val (.int x0), .val (.int x1), .val (.int x2), .val (.int x3), .val (.int (2 : Int32)), .val (.int ca), .val (.int cb), .val (.int cc), .val (.ref u), .val (.ref a3), .val (.ref o11), .val (.ref u)] [(.int ca)])
    refine Go.st (T' := T35) (g' := (mkF m 124 #[.val (.int x0), .val (.int x1), .val (.int x2), .val (.int x3), .val (.int (2 : Int32)), .val (.int ca), .val (.int cb), .val (.int cc), .val (.ref u), .val (.ref a3), .val (.ref o11), .val (.ref u)] [(.int ca), (.int ca)])) (fun _ zk => XS.iload X35.here hx rfl (hb hby at_122) rfl zk) ?_
    refine Go.st (T' := T35) (g' := (mkF m 129 #[.val (.int x0), .val (.int x1), .val (.int x2), .val (.int x3), .val (.int (2 : Int32)), .val (.int ca), .val (.int cb), .val (.int cc), .val (.ref u), .val (.ref a3), .val (.ref o11), .val (.ref u)] [])) (fun _ zk => XS.icmpYes X35.here hx rfl (pc0 := 124) (pc' := 129) rfl (hb hby at_124) rfl (teq (rfl : ca = ca)).1 (by decide) (by decide) zk) ?_
    refine Go.st (T' := T35) (g' := (mkF m 131 #[.val (.int x0), .val (.int x1), .val (.int x2), .val (.int x3), .val (.int (2 : Int32)), .val (.int ca), .val (.int cb), .val (.int cc), .val (.ref u), .val (.ref a3), .val (.ref o11), .val (.ref u)] [(.int (2 : Int32))])) (fun _ zk => XS.iload X35.here hx rfl (hb hby at_129) rfl zk) ?_
    refine Go.st (T' := T35) (g' := (mkF m 132 #[.val (.int x0), .val (.int x1), .val (.int x2), .val (.int x3), .val (.int (2 : Int32)), .val (.int ca), .val (.int cb), .val (.int cc), .val (.ref u), .val (.ref a3), .val (.ref o11), .val (.ref u)] [(.int (2 : Int32)), (.int (2 : Int32))])) (fun _ zk => XS.iconst X35.here hx rfl (hb hby at_131) zk) ?_
    refine Go.st (T' := T35) (g' := (mkF m 135 #[.val (.int x0), .val (.int x1), .val (.int x2), .val (.int x3), .val (.int (2 : Int32)), .val (.int ca), .val (.int cb), .val (.int cc), .val (.ref u), .val (.ref a3), .val (.ref o11), .val (.ref u)] [])) (fun _ zk => XS.icmpNo X35.here hx rfl (hb hby at_132) rfl (flt ((by decide) : ¬ ((2 : Int32) < (2 : Int32)))).1 zk) ?_
    refine Go.st (T' := T35) (g' := (mkF m 137 #[.val (.int x0), .val (.int x1), .val (.int x2), .val (.int x3), .val (.int (2 : Int32)), .val (.int ca), .val (.int cb), .val (.int cc), .val (.ref u), .val (.ref a3), .val (.ref o11), .val (.ref u)] [(.ref u)])) (fun _ zk => XS.aload X35.here hx rfl (hb hby at_135) rfl rfl zk) ?_
    refine Go.st (T' := T35) (g' := (mkF m 138 #[.val (.int x0), .val (.int x1), .val (.int x2), .val (.int x3), .val (.int (2 : Int32)), .val (.int ca), .val (.int cb), .val (.int cc), .val (.ref u), .val (.ref a3), .val (.ref o11), .val (.ref u)] [(.int (1 : Int32)), (.ref u)])) (fun _ zk => XS.iconst X35.here hx rfl (hb hby at_137) zk) ?_
    refine Go.callV (y := (⟨"java/lang/String", "charAt", "(I)C"⟩ : MethodName)) (z := (⟨"java/lang/String", "charAt", "(I)C"⟩ : MethodName)) (C := "java/lang/String") (a := u) X35 hx hZ hown E35 (w118 hw) (w119 hw) (w121 hw) (w120 hw) (w7 hw) (w122 hw) (notFace_of_selects (args := #[]) (mvT hZ (w121 hw))) (by decide) f15 (argsL := [(.int (1 : Int32))]) (rest := []) (W := 0) (rm_charAtW l Z a0 hw [] u (chs (2 : Int32) ca cb cc) (chs (2 : Int32) ca cb cc).length 1 zc fm h11 n0 (Nat.le_trans Z0 (Nat.le_trans (Nat.le_trans E1.1 E3.1) E11.1)) f21 f18 rfl (own_chl _ _ _ _) (own_chr qca qcb qcc) (by decide : 1 < 2) CS hz FM rf UA UH UL) rfl (lenOf pd34 rfl) rfl (by rw [hml]; rfl) rfl (by show 2 * 0 + _ ≤ _; exact Nat.le_of_eq rfl) (by decide) (by decide) (by decide) (by decide) (hb hby at_138) ?_
    intro v36 T36 h36 L36 X36 e36 q36
    obtain ⟨hv36, Nf36, hh36⟩ := q36
    subst hv36
    have E36 : T36.heap = h11 := e36.trans hh36
    have N36 := Fr.app N35 Nf36
    show Go p.tables e below _ T36 (mkF m 141 #[.val (.int x0), .val (.int x1), .val (.int x2), .val (.int x3), .val (.int (2 : Int32)), .val (.int ca), .val (.int cb), .val (.int cc), .val (.ref u), .val (.ref a3), .val (.ref o11), .val (.ref u)] [(.int cb)])
    refine Go.st (T' := T36) (g' := (mkF m 143 #[.val (.int x0), .val (.int x1), .val (.int x2), .val (.int x3), .val (.int (2 : Int32)), .val (.int ca), .val (.int cb), .val (.int cc), .val (.ref u), .val (.ref a3), .val (.ref o11), .val (.ref u)] [(.int cb), (.int cb)])) (fun _ zk => XS.iload X36.here hx rfl (hb hby at_141) rfl zk) ?_
    refine Go.st (T' := T36) (g' := (mkF m 148 #[.val (.int x0), .val (.int x1), .val (.int x2), .val (.int x3), .val (.int (2 : Int32)), .val (.int ca), .val (.int cb), .val (.int cc), .val (.ref u), .val (.ref a3), .val (.ref o11), .val (.ref u)] [])) (fun _ zk => XS.icmpYes X36.here hx rfl (pc0 := 143) (pc' := 148) rfl (hb hby at_143) rfl (teq (rfl : cb = cb)).1 (by decide) (by decide) zk) ?_
    refine Go.st (T' := T36) (g' := (mkF m 150 #[.val (.int x0), .val (.int x1), .val (.int x2), .val (.int x3), .val (.int (2 : Int32)), .val (.int ca), .val (.int cb), .val (.int cc), .val (.ref u), .val (.ref a3), .val (.ref o11), .val (.ref u)] [(.int (2 : Int32))])) (fun _ zk => XS.iload X36.here hx rfl (hb hby at_148) rfl zk) ?_
    refine Go.st (T' := T36) (g' := (mkF m 151 #[.val (.int x0), .val (.int x1), .val (.int x2), .val (.int x3), .val (.int (2 : Int32)), .val (.int ca), .val (.int cb), .val (.int cc), .val (.ref u), .val (.ref a3), .val (.ref o11), .val (.ref u)] [(.int (3 : Int32)), (.int (2 : Int32))])) (fun _ zk => XS.iconst X36.here hx rfl (hb hby at_150) zk) ?_
    refine Go.st (T' := T36) (g' := (mkF m 167 #[.val (.int x0), .val (.int x1), .val (.int x2), .val (.int x3), .val (.int (2 : Int32)), .val (.int ca), .val (.int cb), .val (.int cc), .val (.ref u), .val (.ref a3), .val (.ref o11), .val (.ref u)] [])) (fun _ zk => XS.icmpYes X36.here hx rfl (pc0 := 151) (pc' := 167) rfl (hb hby at_151) rfl (tlt ((by decide) : (2 : Int32) < (3 : Int32))).1 (by decide) (by decide) zk) ?_
    refine Go.st (T' := T36) (g' := (mkF m 169 #[.val (.int x0), .val (.int x1), .val (.int x2), .val (.int x3), .val (.int (2 : Int32)), .val (.int ca), .val (.int cb), .val (.int cc), .val (.ref u), .val (.ref a3), .val (.ref o11), .val (.ref u)] [(.ref a3)])) (fun _ zk => XS.aload X36.here hx rfl (hb hby at_167) rfl rfl zk) ?_
    have f37 := F33.ext xt20
    have f39 := A3.ext xt20
    refine Go.callV (y := (⟨"com/example/payment_retry_queue/paymentretryqueue/AttemptAnswer", "retryAfter", "()Ljava/util/Optional;"⟩ : MethodName)) (z := (⟨"com/example/payment_retry_queue/paymentretryqueue/AttemptAnswer", "retryAfter", "()Ljava/util/Optional;"⟩ : MethodName)) (C := "com/example/payment_retry_queue/paymentretryqueue/AttemptAnswer") (a := a3) X36 hx hZ hown E36 (w102 hw) (w103 hw) (w105 hw) (w104 hw) (w29 hw) (w106 hw) (notFace_of_selects (args := #[]) (mvT hZ (w105 hw))) (by decide) f39 (argsL := []) (rest := []) (W := 0) (rm_rtaf l Z a0 hw [] a3 em h11 n0 (Nat.le_trans Z0 (Nat.le_trans (Nat.le_trans E1.1 E3.1) E11.1)) f21 f37 EM) rfl (lenOf pd30 rfl) rfl (by rw [hml]; rfl) rfl (by show 2 * 0 + _ ≤ _; exact Nat.le_of_eq rfl) (by decide) (by decide) (by decide) (by decide) (hb hby at_169) ?_
    intro v38 T38 h38 L38 X38 e38 q38
    obtain ⟨hv38, Nf38, hh38⟩ := q38
    subst hv38
    have E38 : T38.heap = h11 := e38.trans hh38
    have N38 := Fr.app N36 Nf38
    show Go p.tables e below _ T38 (mkF m 172 #[.val (.int x0), .val (.int x1), .val (.int x2), .val (.int x3), .val (.int (2 : Int32)), .val (.int ca), .val (.int cb), .val (.int cc), .val (.ref u), .val (.ref a3), .val (.ref o11), .val (.ref u)] [(.ref em)])
    have EMx40 := EME.ext f21.2
    have EMf40 := EMF.ext f21.2
    refine Go.callV (y := (⟨"java/util/Optional", "isPresent", "()Z"⟩ : MethodName)) (z := (⟨"java/util/Optional", "isPresent", "()Z"⟩ : MethodName)) (C := "java/util/Optional") (a := em) X38 hx hZ hown E38 (w76 hw) (w77 hw) (w79 hw) (w78 hw) (w65 hw) (w80 hw) (notFace_of_selects (args := #[]) (mvT hZ (w79 hw))) (by decide) EMx40 (argsL := []) (rest := []) (W := 0) (rm_isPr0 l Z a0 hw [] em h11 n0 (Nat.le_trans Z0 (Nat.le_trans (Nat.le_trans E1.1 E3.1) E11.1)) EMf40) rfl (lenOf pd15 rfl) rfl (by rw [hml]; rfl) rfl (by show 2 * 0 + _ ≤ _; exact Nat.le_of_eq rfl) (by decide) (by decide) (by decide) (by decide) (hb hby at_172) ?_
    intro v41 T41 h41 L41 X41 e41 q41
    obtain ⟨hv41, Nf41, hh41⟩ := q41
    subst hv41
    have E41 : T41.heap = h11 := e41.trans hh41
    have N41 := Fr.app N38 Nf41
    show Go p.tables e below _ T41 (mkF m 175 #[.val (.int x0), .val (.int x1), .val (.int x2), .val (.int x3), .val (.int (2 : Int32)), .val (.int ca), .val (.int cb), .val (.int cc), .val (.ref u), .val (.ref a3), .val (.ref o11), .val (.ref u)] [(.int (0 : Int32))])
    refine Go.st (T' := T41) (g' := (mkF m 178 #[.val (.int x0), .val (.int x1), .val (.int x2), .val (.int x3), .val (.int (2 : Int32)), .val (.int ca), .val (.int cb), .val (.int cc), .val (.ref u), .val (.ref a3), .val (.ref o11), .val (.ref u)] [])) (fun _ zk => XS.ifNo X41.here hx rfl (hb hby at_175) rfl ((if0 _ _).trans (teq (rfl : (0 : Int32) = (0 : Int32))).2) zk) ?_
    refine Go.st (T' := T41) (g' := (mkF m 179 #[.val (.int x0), .val (.int x1), .val (.int x2), .val (.int x3), .val (.int (2 : Int32)), .val (.int ca), .val (.int cb), .val (.int cc), .val (.ref u), .val (.ref a3), .val (.ref o11), .val (.ref u)] [(.int (1 : Int32))])) (fun _ zk => XS.iconst X41.here hx rfl (hb hby at_178) zk) ?_
    refine Go.st (T' := T41) (g' := (mkF m 183 #[.val (.int x0), .val (.int x1), .val (.int x2), .val (.int x3), .val (.int (2 : Int32)), .val (.int ca), .val (.int cb), .val (.int cc), .val (.ref u), .val (.ref a3), .val (.ref o11), .val (.ref u)] [(.int (1 : Int32))])) (fun _ zk => XS.goto X41.here hx rfl (pc0 := 179) (pc' := 183) rfl (hb hby at_179) (by decide) (by decide) zk) ?_
    have cr42 := (chrE ca6 E11)
    refine Go.retNS X41 hx hlk hS (Nat.le_trans (Nat.le_refl _) E11.1) cr42 hZ hEL hret rfl (by simp) (hb hby at_183) (by decide) (by decide) E41 ?_
    exact ⟨rfl, N41⟩
  · refine Go.st (T' := T19) (g' := (mkF m 112 #[.val (.int x0), .val (.int x1), .val (.int x2), .val (.int x3), .val (.int (3 : Int32)), .val (.int ca), .val (.int cb), .val (.int cc), .val (.ref u), .val (.ref a3), .val (.ref o11), .val (.ref u)] [(.int (3 : Int32))])) (fun _ zk => XS.iload X19.here hx rfl (hb hby at_110) rfl zk) ?_
    refine Go.st (T' := T19) (g' := (mkF m 113 #[.val (.int x0), .val (.int x1), .val (.int x2), .val (.int x3), .val (.int (3 : Int32)), .val (.int ca), .val (.int cb), .val (.int cc), .val (.ref u), .val (.ref a3), .val (.ref o11), .val (.ref u)] [(.int (1 : Int32)), (.int (3 : Int32))])) (fun _ zk => XS.iconst X19.here hx rfl (hb hby at_112) zk) ?_
    refine Go.st (T' := T19) (g' := (mkF m 116 #[.val (.int x0), .val (.int x1), .val (.int x2), .val (.int x3), .val (.int (3 : Int32)), .val (.int ca), .val (.int cb), .val (.int cc), .val (.ref u), .val (.ref a3), .val (.ref o11), .val (.ref u)] [])) (fun _ zk => XS.icmpNo X19.here hx rfl (hb hby at_113) rfl (flt ((by decide) : ¬ ((3 : Int32) < (1 : Int32)))).1 zk) ?_
    refine Go.st (T' := T19) (g' := (mkF m 118 #[.val (.int x0), .val (.int x1), .val (.int x2), .val (.int x3), .val (.int (3 : Int32)), .val (.int ca), .val (.int cb), .val (.int cc), .val (.ref u), .val (.ref a3), .val (.ref o11), .val (.ref u)] [(.ref u)])) (fun _ zk => XS.aload X19.here hx rfl (hb hby at_116) rfl rfl zk) ?_
    refine Go.st (T' := T19) (g' := (mkF m 119 #[.val (.int x0), .val (.int x1), .val (.int x2), .val (.int x3), .val (.int (3 : Int32)), .val (.int ca), .val (.int cb), .val (.int cc), .val (.ref u), .val (.ref a3), .val (.ref o11), .val (.ref u)] [(.int (0 : Int32)), (.ref u)])) (fun _ zk => XS.iconst X19.here hx rfl (hb hby at_118) zk) ?_
    refine Go.callV (y := (⟨"java/lang/String", "charAt", "(I)C"⟩ : MethodName)) (z := (⟨"java/lang/String", "charAt", "(I)C"⟩ : MethodName)) (C := "java/lang/String") (a := u) X19 hx hZ hown E19 (w118 hw) (w119 hw) (w121 hw) (w120 hw) (w7 hw) (w122 hw) (notFace_of_selects (args := #[]) (mvT hZ (w121 hw))) (by decide) f15 (argsL := [(.int (0 : Int32))]) (rest := []) (W := 0) (rm_charAtW l Z a0 hw [] u (chs (3 : Int32) ca cb cc) (chs (3 : Int32) ca cb cc).length 0 zc fm h11 n0 (Nat.le_trans Z0 (Nat.le_trans (Nat.le_trans E1.1 E3.1) E11.1)) f21 f18 rfl (own_chl _ _ _ _) (own_chr qca qcb qcc) (by decide : 0 < 3) CS hz FM rf UA UH UL) rfl (lenOf pd34 rfl) rfl (by rw [hml]; rfl) rfl (by show 2 * 0 + _ ≤ _; exact Nat.le_of_eq rfl) (by decide) (by decide) (by decide) (by decide) (hb hby at_119) ?_
    intro v43 T43 h43 L43 X43 e43 q43
    obtain ⟨hv43, Nf43, hh43⟩ := q43
    subst hv43
    have E43 : T43.heap = h11 := e43.trans hh43
    have N43 := Fr.app N19 Nf43
    show Go p.tables e below _ T43 (mkF m 122 #[.val (.int x0), .val (.int x1), .val (.int x2), .val (.int x3), .val (.int (3 : Int32)), .val (.int ca), .val (.int cb), .val (.int cc), .val (.ref u), .val (.ref a3), .val (.ref o11), .val (.ref u)] [(.int ca)])
    refine Go.st (T' := T43) (g' := (mkF m 124 #[.val (.int x0), .val (.int x1), .val (.int x2), .val (.int x3), .val (.int (3 : Int32)), .val (.int ca), .val (.int cb), .val (.int cc), .val (.ref u), .val (.ref a3), .val (.ref o11), .val (.ref u)] [(.int ca), (.int ca)])) (fun _ zk => XS.iload X43.here hx rfl (hb hby at_122) rfl zk) ?_
    refine Go.st (T' := T43) (g' := (mkF m 129 #[.val (.int x0), .val (.int x1), .val (.int x2), .val (.int x3), .val (.int (3 : Int32)), .val (.int ca), .val (.int cb), .val (.int cc), .val (.ref u), .val (.ref a3), .val (.ref o11), .val (.ref u)] [])) (fun _ zk => XS.icmpYes X43.here hx rfl (pc0 := 124) (pc' := 129) rfl (hb hby at_124) rfl (teq (rfl : ca = ca)).1 (by decide) (by decide) zk) ?_
    refine Go.st (T' := T43) (g' := (mkF m 131 #[.val (.int x0), .val (.int x1), .val (.int x2), .val (.int x3), .val (.int (3 : Int32)), .val (.int ca), .val (.int cb), .val (.int cc), .val (.ref u), .val (.ref a3), .val (.ref o11), .val (.ref u)] [(.int (3 : Int32))])) (fun _ zk => XS.iload X43.here hx rfl (hb hby at_129) rfl zk) ?_
    refine Go.st (T' := T43) (g' := (mkF m 132 #[.val (.int x0), .val (.int x1), .val (.int x2), .val (.int x3), .val (.int (3 : Int32)), .val (.int ca), .val (.int cb), .val (.int cc), .val (.ref u), .val (.ref a3), .val (.ref o11), .val (.ref u)] [(.int (2 : Int32)), (.int (3 : Int32))])) (fun _ zk => XS.iconst X43.here hx rfl (hb hby at_131) zk) ?_
    refine Go.st (T' := T43) (g' := (mkF m 135 #[.val (.int x0), .val (.int x1), .val (.int x2), .val (.int x3), .val (.int (3 : Int32)), .val (.int ca), .val (.int cb), .val (.int cc), .val (.ref u), .val (.ref a3), .val (.ref o11), .val (.ref u)] [])) (fun _ zk => XS.icmpNo X43.here hx rfl (hb hby at_132) rfl (flt ((by decide) : ¬ ((3 : Int32) < (2 : Int32)))).1 zk) ?_
    refine Go.st (T' := T43) (g' := (mkF m 137 #[.val (.int x0), .val (.int x1), .val (.int x2), .val (.int x3), .val (.int (3 : Int32)), .val (.int ca), .val (.int cb), .val (.int cc), .val (.ref u), .val (.ref a3), .val (.ref o11), .val (.ref u)] [(.ref u)])) (fun _ zk => XS.aload X43.here hx rfl (hb hby at_135) rfl rfl zk) ?_
    refine Go.st (T' := T43) (g' := (mkF m 138 #[.val (.int x0), .val (.int x1), .val (.int x2), .val (.int x3), .val (.int (3 : Int32)), .val (.int ca), .val (.int cb), .val (.int cc), .val (.ref u), .val (.ref a3), .val (.ref o11), .val (.ref u)] [(.int (1 : Int32)), (.ref u)])) (fun _ zk => XS.iconst X43.here hx rfl (hb hby at_137) zk) ?_
    refine Go.callV (y := (⟨"java/lang/String", "charAt", "(I)C"⟩ : MethodName)) (z := (⟨"java/lang/String", "charAt", "(I)C"⟩ : MethodName)) (C := "java/lang/String") (a := u) X43 hx hZ hown E43 (w118 hw) (w119 hw) (w121 hw) (w120 hw) (w7 hw) (w122 hw) (notFace_of_selects (args := #[]) (mvT hZ (w121 hw))) (by decide) f15 (argsL := [(.int (1 : Int32))]) (rest := []) (W := 0) (rm_charAtW l Z a0 hw [] u (chs (3 : Int32) ca cb cc) (chs (3 : Int32) ca cb cc).length 1 zc fm h11 n0 (Nat.le_trans Z0 (Nat.le_trans (Nat.le_trans E1.1 E3.1) E11.1)) f21 f18 rfl (own_chl _ _ _ _) (own_chr qca qcb qcc) (by decide : 1 < 3) CS hz FM rf UA UH UL) rfl (lenOf pd34 rfl) rfl (by rw [hml]; rfl) rfl (by show 2 * 0 + _ ≤ _; exact Nat.le_of_eq rfl) (by decide) (by decide) (by decide) (by decide) (hb hby at_138) ?_
    intro v44 T44 h44 L44 X44 e44 q44
    obtain ⟨hv44, Nf44, hh44⟩ := q44
    subst hv44
    have E44 : T44.heap = h11 := e44.trans hh44
    have N44 := Fr.app N43 Nf44
    show Go p.tables e below _ T44 (mkF m 141 #[.val (.int x0), .val (.int x1), .val (.int x2), .val (.int x3), .val (.int (3 : Int32)), .val (.int ca), .val (.int cb), .val (.int cc), .val (.ref u), .val (.ref a3), .val (.ref o11), .val (.ref u)] [(.int cb)])
    refine Go.st (T' := T44) (g' := (mkF m 143 #[.val (.int x0), .val (.int x1), .val (.int x2), .val (.int x3), .val (.int (3 : Int32)), .val (.int ca), .val (.int cb), .val (.int cc), .val (.ref u), .val (.ref a3), .val (.ref o11), .val (.ref u)] [(.int cb), (.int cb)])) (fun _ zk => XS.iload X44.here hx rfl (hb hby at_141) rfl zk) ?_
    refine Go.st (T' := T44) (g' := (mkF m 148 #[.val (.int x0), .val (.int x1), .val (.int x2), .val (.int x3), .val (.int (3 : Int32)), .val (.int ca), .val (.int cb), .val (.int cc), .val (.ref u), .val (.ref a3), .val (.ref o11), .val (.ref u)] [])) (fun _ zk => XS.icmpYes X44.here hx rfl (pc0 := 143) (pc' := 148) rfl (hb hby at_143) rfl (teq (rfl : cb = cb)).1 (by decide) (by decide) zk) ?_
    refine Go.st (T' := T44) (g' := (mkF m 150 #[.val (.int x0), .val (.int x1), .val (.int x2), .val (.int x3), .val (.int (3 : Int32)), .val (.int ca), .val (.int cb), .val (.int cc), .val (.ref u), .val (.ref a3), .val (.ref o11), .val (.ref u)] [(.int (3 : Int32))])) (fun _ zk => XS.iload X44.here hx rfl (hb hby at_148) rfl zk) ?_
    refine Go.st (T' := T44) (g' := (mkF m 151 #[.val (.int x0), .val (.int x1), .val (.int x2), .val (.int x3), .val (.int (3 : Int32)), .val (.int ca), .val (.int cb), .val (.int cc), .val (.ref u), .val (.ref a3), .val (.ref o11), .val (.ref u)] [(.int (3 : Int32)), (.int (3 : Int32))])) (fun _ zk => XS.iconst X44.here hx rfl (hb hby at_150) zk) ?_
    refine Go.st (T' := T44) (g' := (mkF m 154 #[.val (.int x0), .val (.int x1), .val (.int x2), .val (.int x3), .val (.int (3 : Int32)), .val (.int ca), .val (.int cb), .val (.int cc), .val (.ref u), .val (.ref a3), .val (.ref o11), .val (.ref u)] [])) (fun _ zk => XS.icmpNo X44.here hx rfl (hb hby at_151) rfl (flt ((by decide) : ¬ ((3 : Int32) < (3 : Int32)))).1 zk) ?_
    refine Go.st (T' := T44) (g' := (mkF m 156 #[.val (.int x0), .val (.int x1), .val (.int x2), .val (.int x3), .val (.int (3 : Int32)), .val (.int ca), .val (.int cb), .val (.int cc), .val (.ref u), .val (.ref a3), .val (.ref o11), .val (.ref u)] [(.ref u)])) (fun _ zk => XS.aload X44.here hx rfl (hb hby at_154) rfl rfl zk) ?_
    refine Go.st (T' := T44) (g' := (mkF m 157 #[.val (.int x0), .val (.int x1), .val (.int x2), .val (.int x3), .val (.int (3 : Int32)), .val (.int ca), .val (.int cb), .val (.int cc), .val (.ref u), .val (.ref a3), .val (.ref o11), .val (.ref u)] [(.int (2 : Int32)), (.ref u)])) (fun _ zk => XS.iconst X44.here hx rfl (hb hby at_156) zk) ?_
    refine Go.callV (y := (⟨"java/lang/String", "charAt", "(I)C"⟩ : MethodName)) (z := (⟨"java/lang/String", "charAt", "(I)C"⟩ : MethodName)) (C := "java/lang/String") (a := u) X44 hx hZ hown E44 (w118 hw) (w119 hw) (w121 hw) (w120 hw) (w7 hw) (w122 hw) (notFace_of_selects (args := #[]) (mvT hZ (w121 hw))) (by decide) f15 (argsL := [(.int (2 : Int32))]) (rest := []) (W := 0) (rm_charAtW l Z a0 hw [] u (chs (3 : Int32) ca cb cc) (chs (3 : Int32) ca cb cc).length 2 zc fm h11 n0 (Nat.le_trans Z0 (Nat.le_trans (Nat.le_trans E1.1 E3.1) E11.1)) f21 f18 rfl (own_chl _ _ _ _) (own_chr qca qcb qcc) (by decide : 2 < 3) CS hz FM rf UA UH UL) rfl (lenOf pd34 rfl) rfl (by rw [hml]; rfl) rfl (by show 2 * 0 + _ ≤ _; exact Nat.le_of_eq rfl) (by decide) (by decide) (by decide) (by decide) (hb hby at_157) ?_
    intro v45 T45 h45 L45 X45 e45 q45
    obtain ⟨hv45, Nf45, hh45⟩ := q45
    subst hv45
    have E45 : T45.heap = h11 := e45.trans hh45
    have N45 := Fr.app N44 Nf45
    show Go p.tables e below _ T45 (mkF m 160 #[.val (.int x0), .val (.int x1), .val (.int x2), .val (.int x3), .val (.int (3 : Int32)), .val (.int ca), .val (.int cb), .val (.int cc), .val (.ref u), .val (.ref a3), .val (.ref o11), .val (.ref u)] [(.int cc)])
    refine Go.st (T' := T45) (g' := (mkF m 162 #[.val (.int x0), .val (.int x1), .val (.int x2), .val (.int x3), .val (.int (3 : Int32)), .val (.int ca), .val (.int cb), .val (.int cc), .val (.ref u), .val (.ref a3), .val (.ref o11), .val (.ref u)] [(.int cc), (.int cc)])) (fun _ zk => XS.iload X45.here hx rfl (hb hby at_160) rfl zk) ?_
    refine Go.st (T' := T45) (g' := (mkF m 167 #[.val (.int x0), .val (.int x1), .val (.int x2), .val (.int x3), .val (.int (3 : Int32)), .val (.int ca), .val (.int cb), .val (.int cc), .val (.ref u), .val (.ref a3), .val (.ref o11), .val (.ref u)] [])) (fun _ zk => XS.icmpYes X45.here hx rfl (pc0 := 162) (pc' := 167) rfl (hb hby at_162) rfl (teq (rfl : cc = cc)).1 (by decide) (by decide) zk) ?_
    refine Go.st (T' := T45) (g' := (mkF m 169 #[.val (.int x0), .val (.int x1), .val (.int x2), .val (.int x3), .val (.int (3 : Int32)), .val (.int ca), .val (.int cb), .val (.int cc), .val (.ref u), .val (.ref a3), .val (.ref o11), .val (.ref u)] [(.ref a3)])) (fun _ zk => XS.aload X45.here hx rfl (hb hby at_167) rfl rfl zk) ?_
    have f46 := F33.ext xt20
    have f48 := A3.ext xt20
    refine Go.callV (y := (⟨"com/example/payment_retry_queue/paymentretryqueue/AttemptAnswer", "retryAfter", "()Ljava/util/Optional;"⟩ : MethodName)) (z := (⟨"com/example/payment_retry_queue/paymentretryqueue/AttemptAnswer", "retryAfter", "()Ljava/util/Optional;"⟩ : MethodName)) (C := "com/example/payment_retry_queue/paymentretryqueue/AttemptAnswer") (a := a3) X45 hx hZ hown E45 (w102 hw) (w103 hw) (w105 hw) (w104 hw) (w29 hw) (w106 hw) (notFace_of_selects (args := #[]) (mvT hZ (w105 hw))) (by decide) f48 (argsL := []) (rest := []) (W := 0) (rm_rtaf l Z a0 hw [] a3 em h11 n0 (Nat.le_trans Z0 (Nat.le_trans (Nat.le_trans E1.1 E3.1) E11.1)) f21 f46 EM) rfl (lenOf pd30 rfl) rfl (by rw [hml]; rfl) rfl (by show 2 * 0 + _ ≤ _; exact Nat.le_of_eq rfl) (by decide) (by decide) (by decide) (by decide) (hb hby at_169) ?_
    intro v47 T47 h47 L47 X47 e47 q47
    obtain ⟨hv47, Nf47, hh47⟩ := q47
    subst hv47
    have E47 : T47.heap = h11 := e47.trans hh47
    have N47 := Fr.app N45 Nf47
    show Go p.tables e below _ T47 (mkF m 172 #[.val (.int x0), .val (.int x1), .val (.int x2), .val (.int x3), .val (.int (3 : Int32)), .val (.int ca), .val (.int cb), .val (.int cc), .val (.ref u), .val (.ref a3), .val (.ref o11), .val (.ref u)] [(.ref em)])
    have EMx49 := EME.ext f21.2
    have EMf49 := EMF.ext f21.2
    refine Go.callV (y := (⟨"java/util/Optional", "isPresent", "()Z"⟩ : MethodName)) (z := (⟨"java/util/Optional", "isPresent", "()Z"⟩ : MethodName)) (C := "java/util/Optional") (a := em) X47 hx hZ hown E47 (w76 hw) (w77 hw) (w79 hw) (w78 hw) (w65 hw) (w80 hw) (notFace_of_selects (args := #[]) (mvT hZ (w79 hw))) (by decide) EMx49 (argsL := []) (rest := []) (W := 0) (rm_isPr0 l Z a0 hw [] em h11 n0 (Nat.le_trans Z0 (Nat.le_trans (Nat.le_trans E1.1 E3.1) E11.1)) EMf49) rfl (lenOf pd15 rfl) rfl (by rw [hml]; rfl) rfl (by show 2 * 0 + _ ≤ _; exact Nat.le_of_eq rfl) (by decide) (by decide) (by decide) (by decide) (hb hby at_172) ?_
    intro v50 T50 h50 L50 X50 e50 q50
    obtain ⟨hv50, Nf50, hh50⟩ := q50
    subst hv50
    have E50 : T50.heap = h11 := e50.trans hh50
    have N50 := Fr.app N47 Nf50
    show Go p.tables e below _ T50 (mkF m 175 #[.val (.int x0), .val (.int x1), .val (.int x2), .val (.int x3), .val (.int (3 : Int32)), .val (.int ca), .val (.int cb), .val (.int cc), .val (.ref u), .val (.ref a3), .val (.ref o11), .val (.ref u)] [(.int (0 : Int32))])
    refine Go.st (T' := T50) (g' := (mkF m 178 #[.val (.int x0), .val (.int x1), .val (.int x2), .val (.int x3), .val (.int (3 : Int32)), .val (.int ca), .val (.int cb), .val (.int cc), .val (.ref u), .val (.ref a3), .val (.ref o11), .val (.ref u)] [])) (fun _ zk => XS.ifNo X50.here hx rfl (hb hby at_175) rfl ((if0 _ _).trans (teq (rfl : (0 : Int32) = (0 : Int32))).2) zk) ?_
    refine Go.st (T' := T50) (g' := (mkF m 179 #[.val (.int x0), .val (.int x1), .val (.int x2), .val (.int x3), .val (.int (3 : Int32)), .val (.int ca), .val (.int cb), .val (.int cc), .val (.ref u), .val (.ref a3), .val (.ref o11), .val (.ref u)] [(.int (1 : Int32))])) (fun _ zk => XS.iconst X50.here hx rfl (hb hby at_178) zk) ?_
    refine Go.st (T' := T50) (g' := (mkF m 183 #[.val (.int x0), .val (.int x1), .val (.int x2), .val (.int x3), .val (.int (3 : Int32)), .val (.int ca), .val (.int cb), .val (.int cc), .val (.ref u), .val (.ref a3), .val (.ref o11), .val (.ref u)] [(.int (1 : Int32))])) (fun _ zk => XS.goto X50.here hx rfl (pc0 := 179) (pc' := 183) rfl (hb hby at_179) (by decide) (by decide) zk) ?_
    have cr51 := (chrE ca6 E11)
    refine Go.retNS X50 hx hlk hS (Nat.le_trans (Nat.le_refl _) E11.1) cr51 hZ hEL hret rfl (by simp) (hb hby at_183) (by decide) (by decide) E50 ?_
    exact ⟨rfl, N50⟩
theorem w34 {a0 : Array Value} {Z : State} (hw : ∀ d ∈ tables_1, d.before a0 Z = true) : ((Jvm.Cond.initialized "com/example/payment_retry_queue/paymentretryqueue/AttemptAnswer$Kind")).before a0 Z = true := hw _ (List.mem_of_getElem? (i := 34) rfl)
theorem w35 {a0 : Array Value} {Z : State} (hw : ∀ d ∈ tables_1, d.before a0 Z = true) : ((Jvm.Cond.laysStatic "com/example/payment_retry_queue/paymentretryqueue/AttemptAnswer$Kind" "SUCCEEDED" "Lcom/example/payment_retry_queue/paymentretryqueue/AttemptAnswer$Kind;")).before a0 Z = true := hw _ (List.mem_of_getElem? (i := 35) rfl)
set_option maxRecDepth 65536 in
set_option maxHeartbeats 40000000 in
theorem comes_1 {Post : Tables → Env → Array Value → State → Outcome → State → Prop} (hpost : ∀ tb e args s v u, (limb_1_1.after args s (.returned v) u = true ∧ limb_1_2.after args s (.returned v) u = true ∧ True) → ReturnedEndW s (.returned v) u (Jvm.fieldLocs frame_1_writes args s ++ Jvm.arrayLocs frame_1_arrays args s ++ Jvm.staticLocs frame_1_statics s) 24 2176 → Post tb e args s (.returned v) u) :
    ArmFor flags0 classFile x code maxLocals ret World_1 tables_1 room_1 Calls_1 rest_1 Pre_1 Post := by
  intro l hfl _ _ p e ha hc hk s m args below hf hA hF happ hP
  obtain ⟨hcalls, hrest, hpre⟩ := hP
  obtain ⟨-, -, -, hnamed, -, -, -, hat⟩ := (Spec.applies_iff hf).mp happ
  obtain ⟨hg, hn⟩ := and_e (Cond.before_iff.mp (show (Jvm.Cond.and given_1 narrow_1).before args s = true from hpre))
  obtain ⟨g0a, g0b⟩ := and_e hg
  obtain ⟨g1a, g1b⟩ := and_e g0b
  obtain ⟨g2a, g2b⟩ := and_e g1b
  obtain ⟨g3a, g3b⟩ := and_e g2b
  obtain ⟨w0', w1', w2', w3', rfl⟩ : ∃ w0' w1' w2' w3' : Value, args = #[w0', w1', w2', w3'] := by
    have hs : args.size = 4 := by simpa [Cond.value, given_1] using g0a
    obtain ⟨L⟩ := args
    match L, hs with
    | [w0', w1', w2', w3'], _ => exact ⟨w0', w1', w2', w3', rfl⟩
  have hw := fun d (hd : d ∈ tables_1) => atoms_spec (ws := Jvm.Cond.code x code maxLocals ret :: tables_1) hat d (List.mem_cons_of_mem _ hd)
  have hfit : Fit s := fun {y c} hc i hi => by
    obtain ⟨ha, rfl⟩ := Array.getElem?_eq_some_iff.mp hc
    have q := List.all_eq_true.mp ((Array.all_eq_true_iff_forall_mem.mp hF) _ (Array.getElem_mem ha)) i (List.mem_range.mpr hi)
    simpa [Array.getElem?_eq_getElem hi] using q
  obtain ⟨i0, ei0⟩ := is_v g1a
  obtain rfl : w0' = (.int i0) := Option.some.inj ei0
  obtain ⟨i1, ei1⟩ := is_v g2a
  obtain rfl : w1' = (.int i1) := Option.some.inj ei1
  obtain ⟨i2, ei2⟩ := is_v g3a
  obtain rfl : w2' = (.int i2) := Option.some.inj ei2
  obtain ⟨i3, ei3⟩ := is_v g3b
  obtain rfl : w3' = (.int i3) := Option.some.inj ei3
  obtain ⟨sa0, ev0⟩ := exa_v hn
  have sE0 : Exa s s.heap sa0 "com/example/payment_retry_queue/paymentretryqueue/AttemptAnswer$Kind" := Exa.start ev0 hn
  have sS0 : Sta s s.heap "com/example/payment_retry_queue/paymentretryqueue/AttemptAnswer$Kind" "SUCCEEDED" "Lcom/example/payment_retry_queue/paymentretryqueue/AttemptAnswer$Kind;" (.ref sa0) := Sta.start ev0 (Or.inr ⟨(w34 hw), (w35 hw)⟩)
  have hrest' : rest_1_c.before _ s = true := hrest
  have hR := Cond.before_iff.mp hrest'
  obtain ⟨r0a, r0b⟩ := and_e hR
  obtain ⟨r1a, r1b⟩ := and_e r0b
  obtain ⟨r2a, r2b⟩ := and_e r1b
  obtain ⟨r3a, r3b⟩ := and_e r2b
  obtain ⟨r4a, r4b⟩ := and_e r3b
  obtain ⟨r5a, r5b⟩ := and_e r4b
  obtain ⟨r6a, r6b⟩ := and_e r5b
  obtain ⟨r7a, r7b⟩ := and_e r6b
  obtain ⟨r8a, r8b⟩ := and_e r7b
  obtain ⟨r9a, r9b⟩ := and_e r8b
  obtain ⟨r10a, r10b⟩ := and_e r9b
  obtain ⟨r11a, r11b⟩ := and_e r10b
  obtain ⟨r12a, r12b⟩ := and_e r11b
  obtain ⟨r13a, r13b⟩ := and_e r12b
  obtain ⟨r14a, r14b⟩ := and_e r13b
  obtain ⟨r15a, r15b⟩ := and_e r14b
  obtain ⟨r16a, r16b⟩ := and_e r15b
  obtain ⟨r17a, r17b⟩ := and_e r16b
  obtain ⟨r18a, r18b⟩ := and_e r17b
  obtain ⟨r19a, r19b⟩ := and_e r18b
  obtain ⟨r20a, r20b⟩ := and_e r19b
  obtain ⟨r21a, r21b⟩ := and_e r20b
  obtain ⟨r22a, r22b⟩ := and_e r21b
  obtain ⟨zc, ezc⟩ := is_v r1a
  have CS : Sta s s.heap "java/lang/String" "COMPACT_STRINGS" "Z" (.int zc) := Sta.start ezc (Or.inl (Cond.before_iff.mpr r0a))
  have hz : ¬ zc = 0 := fun q => by
    have q1 := not_v r2a
    rw [eq_i ezc (Term.int_eval (0)) (by rw [q])] at q1
    cases q1
  obtain ⟨fm, efm, rf⟩ := isR_v r8a
  have FM : Sta s s.heap "jdk/internal/util/Preconditions" "SIOOBE_FORMATTER" "Ljava/util/function/BiFunction;" fm := Sta.start efm (Or.inl (Cond.before_iff.mpr r7a))
  obtain ⟨oe, eoe⟩ := exa_v r11a
  have EME : Exa s s.heap oe "java/util/Optional" := Exa.start eoe r11a
  have EM : Sta s s.heap "java/util/Optional" "EMPTY" "Ljava/util/Optional;" (.ref oe) := Sta.start eoe (Or.inl (Cond.before_iff.mpr r10a))
  have EMF : Fld s s.heap oe "java/util/Optional" "value" "Ljava/lang/Object;" .null := Fld.start ((fld_at eoe).symm.trans (null_v r12a))
  have UA : Sta s s.heap "java/lang/StringUTF16" "$assertionsDisabled" "Z" (.int (1 : Int32)) := Sta.start (eqv_i rfl r16a) (Or.inl (Cond.before_iff.mpr r15a))
  have UH : Sta s s.heap "java/lang/StringUTF16" "HI_BYTE_SHIFT" "I" (.int (0 : Int32)) := Sta.start (eqv_i rfl r19a) (Or.inl (Cond.before_iff.mpr r18a))
  have UL : Sta s s.heap "java/lang/StringUTF16" "LO_BYTE_SHIFT" "I" (.int (8 : Int32)) := Sta.start (eqv_i rfl r22a) (Or.inl (Cond.before_iff.mpr r21a))
  have hcw : Jvm.Lit.compactW.before _ s = true := Cond.before_iff.mpr r2a
  have HCH : CHv s EL0 s.vm s.heap := CHv.start (hEL0 hw) (fun p hp => hcalls.1 p hp) hcw (w20 hw) (w6 hw)
  obtain ⟨n, o, h1, h2, h3, _, L, rfl, ⟨rfl, N⟩, -, hq⟩ := rm_law l s _ hw tables_1 i0 i1 i2 i3 zc fm sa0 oe s.heap s.heap.size (Nat.le_refl _) (Old.start s) CS hz FM rf UA UH UL sS0 EM EME EMF p e ha hc hk s m _ below hf ((Spec.applies_iff_loose hf).mp happ).1 ⟨rfl, State.Warmed39.refl s, rfl, HCH, fun _ q => nomatch q⟩ trivial
  exact ⟨n, _, h1, h2, h3, hpost _ _ _ _ _ _ ⟨Cond.after_iff.mpr rfl, Cond.after_iff.mpr (eq_i res_at (Term.int_eval (1)) rfl), trivial⟩ ⟨hq.1, hq.2.1, hq.2.2.1, (hq.2.2.2.sift fun y hy => Or.inr (N y hy)).mono (by decide) (by decide)⟩⟩
theorem main_1_1 : Claimed_1_1 := comes_1 fun _ _ _ _ _ _ h hF => ⟨h.1, hF⟩
theorem main_1_2 : Claimed_1_2 := comes_1 fun _ _ _ _ _ _ h hF => ⟨h.2.1, hF⟩
end Jvm.Pilot.@@N@@
namespace Jvm.Pilot.@@N@@
open Jvm Jvm.ClassFile Sem Op Lib Jvm.Free Jvm.Stand Jvm.Pilot.@@N@@.Jvm.D
/-! MADE BY PROGRAM (witnessworld.py) out of the Statement's table words and the real class files: 24 classes; the members and pool entries that the words name. The judged class is class 1, her method 2. -/
namespace start1
open Jvm.ClassFile
def u (s : String) : CpInfo := .utf8 (stringToUtf16 s)
/-- a pool by its gaps: so many unusable entries, then the entry; so many at the end -/
def gap : Nat → List CpInfo → List CpInfo
  | 0, r => r
  | n + 1, r => .unusable :: gap n r
def poolList (es : List (Nat × CpInfo)) (last : Nat) : List CpInfo := es.foldr (fun e r => gap e.1 (e.2 :: r)) (gap last [])
def pool (es : List (Nat × CpInfo)) (last : Nat) : Array CpInfo := ⟨poolList es last⟩
def fileOf (pool : Array CpInfo) (this : Nat) (attrs : Array Attribute := #[]) (ms : Array MethodInfo := #[]) (fl : Nat := 33) (sup : Nat := 0) (ifs : Array Nat := #[]) (fds : Array FieldInfo := #[]) : ClassFile where
  minorVersion := 0
  majorVersion := 65
  constantPool := pool
  accessFlags := fl
  thisClass := this
  superClass := sup
  interfaces := ifs
  fields := fds
  methods := ms
  attributes := attrs
def plain (name : String) (sup : Option ClassId) : Class where
  name := name
  kind := .ordinary
  loader := none
  accessFlags := 33
  super := sup
  interfaces := #[]
  cf := none
  fields := #[]
  methods := #[]
  instanceTypes := #[]
  staticTypes := #[]
  resolved := #[]
  callSites := []
  init := .initialized
  statics := none
  mirror := none

def pool0 : Array CpInfo := pool [(5, u "<init>"), (0, u "()V"), (1, .class_ 10), (1, u "java/lang/Object")] 113

def k0c0 : Code := { maxStack := 0, maxLocals := 1, code := object_method_1_code, exceptionTable := #[], attributes := #[] }
def k0m0 : Method := { name := "<init>", desc := "()V", sig := { parameters := [], returnType := none }, accessFlags := 1, code := some k0c0 }
/-- java/lang/Object -/
def k0 : Class := { plain "java/lang/Object" none with
  accessFlags := 33
  interfaces := #[]
  cf := some (fileOf pool0 8 #[] #[{ accessFlags := 1, nameIndex := 5, descriptorIndex := 6, attributes := #[] }] 33 0 #[] #[])
  fields := #[]
  methods := #[k0m0]
  instanceTypes := #[]
  staticTypes := #[]
  resolved := Array.replicate 124 none
  statics := none }

def pool1 : Array CpInfo := pool [(2, .class_ 4), (1, u "java/lang/Object"), (0, u "<init>"), (0, u "()V"), (0, .class_ 8), (0, u "java/lang/String"), (0, .methodref 7 10), (0, .nameAndType 5 11), (0, u "([C)V"), (0, .integer 65535), (0, .methodref 14 15), (0, .class_ 16), (0, .nameAndType 17 18), (0, u "com/example/payment_retry_queue/paymentretryqueue/AttemptAnswerSucceededPinLaw"), (0, u "make"), (0, u "(ICCC)Ljava/lang/String;"), (0, .methodref 20 21), (0, .class_ 22), (0, .nameAndType 23 24), (0, u "com/example/payment_retry_queue/paymentretryqueue/AttemptAnswer"), (0, u "succeeded"), (0, u "(Ljava/lang/String;)Lcom/example/payment_retry_queue/paymentretryqueue/AttemptAnswer;"), (0, .methodref 20 26), (0, .nameAndType 27 28), (0, u "kind"), (0, u "()Lcom/example/payment_retry_queue/paymentretryqueue/AttemptAnswer$Kind;"), (0, .fieldref 30 31), (0, .class_ 32), (0, .nameAndType 33 34), (0, u "com/example/payment_retry_queue/paymentretryqueue/AttemptAnswer$Kind"), (0, u "SUCCEEDED"), (0, u "Lcom/example/payment_retry_queue/paymentretryqueue/AttemptAnswer$Kind;"), (0, .methodref 20 36), (0, .nameAndType 37 38), (0, u "reference"), (0, u "()Ljava/util/Optional;"), (0, .methodref 40 41), (0, .class_ 42), (0, .nameAndType 43 44), (0, u "java/util/Optional"), (0, u "isPresent"), (0, u "()Z"), (0, .methodref 40 46), (0, .nameAndType 47 48), (0, u "get"), (0, u "()Ljava/lang/Object;"), (0, .methodref 7 50), (0, .nameAndType 51 52), (0, u "equals"), (0, u "(Ljava/lang/Object;)Z"), (0, .methodref 7 54), (0, .nameAndType 55 56), (0, u "length"), (0, u "()I"), (0, .methodref 7 58), (0, .nameAndType 59 60), (0, u "charAt"), (0, u "(I)C"), (0, .methodref 20 62), (0, .nameAndType 63 38), (0, u "retryAfter"), (3, u "law"), (0, u "(IIII)Z")] 4

def k1m0 : Method := { name := "<init>", desc := "()V", sig := { parameters := [], returnType := none }, accessFlags := 2, code := none }
def k1c1 : Code := { maxStack := 3, maxLocals := 5, code := method_2_code, exceptionTable := #[], attributes := #[] }
def k1m1 : Method := { name := "make", desc := "(ICCC)Ljava/lang/String;", sig := { parameters := [.int, .char, .char, .char], returnType := some (.object "java/lang/String") }, accessFlags := 10, code := some k1c1 }
def k1c2 : Code := { maxStack := 4, maxLocals := 12, code := code, exceptionTable := #[], attributes := #[] }
def k1m2 : Method := { name := "law", desc := "(IIII)Z", sig := { parameters := [.int, .int, .int, .int], returnType := some .boolean }, accessFlags := 9, code := some k1c2 }
/-- com/example/payment_retry_queue/paymentretryqueue/AttemptAnswerSucceededPinLaw -/
def k1 : Class := { plain "com/example/payment_retry_queue/paymentretryqueue/AttemptAnswerSucceededPinLaw" (some 0) with
  accessFlags := 49
  interfaces := #[]
  cf := some (fileOf pool1 14 #[] #[{ accessFlags := 2, nameIndex := 5, descriptorIndex := 6, attributes := #[] }, { accessFlags := 10, nameIndex := 17, descriptorIndex := 18, attributes := #[] }, { accessFlags := 9, nameIndex := 67, descriptorIndex := 68, attributes := #[] }] 49 2 #[] #[])
  fields := #[]
  methods := #[k1m0, k1m1, k1m2]
  instanceTypes := #[]
  staticTypes := #[]
  resolved := Array.replicate 73 none
  statics := none }

def pool2 : Array CpInfo := pool [(1, .class_ 2), (0, u "java/io/Serializable"), (0, .class_ 4), (0, u "java/lang/Object")] 2

/-- java/io/Serializable -/
def k2 : Class := { plain "java/io/Serializable" (some 0) with
  accessFlags := 1537
  interfaces := #[]
  cf := some (fileOf pool2 1 #[] #[] 1537 3 #[] #[])
  fields := #[]
  methods := #[]
  instanceTypes := #[]
  staticTypes := #[]
  resolved := Array.replicate 7 none
  statics := none }

def pool3 : Array CpInfo := pool [(1, .class_ 2), (0, u "java/lang/Comparable"), (0, .class_ 4), (0, u "java/lang/Object")] 7

/-- java/lang/Comparable -/
def k3 : Class := { plain "java/lang/Comparable" (some 0) with
  accessFlags := 1537
  interfaces := #[]
  cf := some (fileOf pool3 1 #[] #[] 1537 3 #[] #[])
  fields := #[]
  methods := #[]
  instanceTypes := #[]
  staticTypes := #[]
  resolved := Array.replicate 12 none
  statics := none }

def pool4 : Array CpInfo := pool [(2, .class_ 4), (1, u "java/lang/CharSequence"), (42, .class_ 48), (0, u "java/lang/CharSequence$1CodePointIterator"), (10, .class_ 60), (0, u "java/lang/CharSequence$1CharIterator"), (5, .class_ 67), (0, u "java/lang/Object")] 63

/-- java/lang/CharSequence -/
def k4 : Class := { plain "java/lang/CharSequence" (some 0) with
  accessFlags := 1537
  interfaces := #[]
  cf := some (fileOf pool4 2 #[.nestMembers #[47, 59]] #[] 1537 66 #[] #[])
  fields := #[]
  methods := #[]
  instanceTypes := #[]
  staticTypes := #[]
  resolved := Array.replicate 131 none
  statics := none }

def pool5 : Array CpInfo := pool [(1, .class_ 2), (0, u "java/lang/constant/Constable"), (0, .class_ 4), (0, u "java/lang/Object")] 6

/-- java/lang/constant/Constable -/
def k5 : Class := { plain "java/lang/constant/Constable" (some 0) with
  accessFlags := 1537
  interfaces := #[]
  cf := some (fileOf pool5 1 #[] #[] 1537 3 #[] #[])
  fields := #[]
  methods := #[]
  instanceTypes := #[]
  staticTypes := #[]
  resolved := Array.replicate 11 none
  statics := none }

def pool6 : Array CpInfo := pool [(1, .class_ 2), (0, u "java/lang/constant/ConstantDesc"), (0, .class_ 4), (0, u "java/lang/Object")] 32

/-- java/lang/constant/ConstantDesc -/
def k6 : Class := { plain "java/lang/constant/ConstantDesc" (some 0) with
  accessFlags := 1537
  interfaces := #[]
  cf := some (fileOf pool6 1 #[] #[] 1537 3 #[] #[])
  fields := #[]
  methods := #[]
  instanceTypes := #[]
  staticTypes := #[]
  resolved := Array.replicate 37 none
  statics := none }

def pool7 : Array CpInfo := pool [(1, .methodref 2 3), (0, .class_ 4), (0, .nameAndType 5 6), (0, u "java/lang/Object"), (0, u "<init>"), (0, u "()V"), (0, .string 8), (0, u ""), (0, .fieldref 10 11), (0, .class_ 12), (0, .nameAndType 13 14), (0, u "java/lang/String"), (0, u "value"), (0, u "[B"), (0, .fieldref 10 16), (0, .nameAndType 17 18), (0, u "coder"), (0, u "B"), (2, u "hash"), (0, u "I"), (2, u "hashIsZero"), (0, u "Z"), (0, .methodref 10 28), (0, .nameAndType 5 29), (0, u "([CIILjava/lang/Void;)V"), (8, .fieldref 10 39), (0, .nameAndType 40 26), (0, u "COMPACT_STRINGS"), (1, .class_ 44), (1, u "java/lang/StringUTF16"), (0, u "compress"), (1, .methodref 42 48), (0, .nameAndType 49 50), (0, u "coderFromArrayLen"), (0, u "([BI)B"), (56, .class_ 109), (1, u "java/lang/StringLatin1"), (32, u "()Z"), (34, .methodref 42 178), (0, .nameAndType 45 179), (0, u "([CII)[B"), (154, u "()I"), (0, .methodref 10 336), (0, .nameAndType 17 337), (0, u "()B"), (25, u "([BI)C"), (27, u "(II)V"), (35, u "(I)C"), (64, .methodref 10 493), (0, .nameAndType 494 142), (0, u "isLatin1"), (0, .methodref 107 496), (0, .nameAndType 497 363), (0, u "charAt"), (0, .methodref 42 496), (2, u "checkIndex"), (5, u "length"), (35, u "equals"), (29, u "(Ljava/lang/Object;)Z"), (1, .class_ 576), (0, u "java/lang/CharSequence"), (22, u "CASE_INSENSITIVE_ORDER"), (0, u "Ljava/util/Comparator;"), (409, u "([C)V"), (42, .fieldref 1054 1055), (0, .class_ 1056), (0, .nameAndType 1057 1058), (0, u "jdk/internal/util/Preconditions"), (0, u "SIOOBE_FORMATTER"), (0, u "Ljava/util/function/BiFunction;"), (0, .methodref 1054 1060), (0, .nameAndType 501 1061), (0, u "(IILjava/util/function/BiFunction;)I"), (39, u "serialPersistentFields"), (0, u "[Ljava/io/ObjectStreamField;"), (0, .class_ 1104), (0, u "java/lang/String$CaseInsensitiveComparator"), (1, .class_ 1107), (0, u "java/io/Serializable"), (0, .class_ 1109), (0, u "java/lang/Comparable"), (0, .class_ 1111), (0, u "java/lang/constant/Constable"), (0, .class_ 1113), (0, u "java/lang/constant/ConstantDesc"), (2, u "serialVersionUID"), (0, u "J"), (3, u "REPL"), (0, u "C"), (2, u "LATIN1"), (1, u "UTF16")] 323

def k7m0 : Method := { name := "<init>", desc := "()V", sig := { parameters := [], returnType := none }, accessFlags := 1, code := none }
def k7c1 : Code := { maxStack := 5, maxLocals := 2, code := jdk_42_method_3_code, exceptionTable := #[], attributes := #[] }
def k7m1 : Method := { name := "<init>", desc := "([C)V", sig := { parameters := [(.array .char)], returnType := none }, accessFlags := 1, code := some k7c1 }
def k7c2 : Code := { maxStack := 2, maxLocals := 1, code := jdk_42_method_54_code, exceptionTable := #[], attributes := #[] }
def k7m2 : Method := { name := "length", desc := "()I", sig := { parameters := [], returnType := some .int }, accessFlags := 1, code := some k7c2 }
def k7c3 : Code := { maxStack := 2, maxLocals := 2, code := jdk_42_method_56_code, exceptionTable := #[], attributes := #[] }
def k7m3 : Method := { name := "charAt", desc := "(I)C", sig := { parameters := [.int], returnType := some .char }, accessFlags := 1, code := some k7c3 }
def k7c4 : Code := { maxStack := 2, maxLocals := 3, code := jdk_42_method_66_code, exceptionTable := #[], attributes := #[] }
def k7m4 : Method := { name := "equals", desc := "(Ljava/lang/Object;)Z", sig := { parameters := [(.object "java/lang/Object")], returnType := some .boolean }, accessFlags := 1, code := some k7c4 }
def k7c5 : Code := { maxStack := 4, maxLocals := 6, code := jdk_42_method_149_code, exceptionTable := #[], attributes := #[] }
def k7m5 : Method := { name := "<init>", desc := "([CIILjava/lang/Void;)V", sig := { parameters := [(.array .char), .int, .int, (.object "java/lang/Void")], returnType := none }, accessFlags := 2, code := some k7c5 }
def k7c6 : Code := { maxStack := 1, maxLocals := 1, code := jdk_42_method_152_code, exceptionTable := #[], attributes := #[] }
def k7m6 : Method := { name := "coder", desc := "()B", sig := { parameters := [], returnType := some .byte }, accessFlags := 0, code := some k7c6 }
def k7c7 : Code := { maxStack := 1, maxLocals := 1, code := jdk_42_method_154_code, exceptionTable := #[], attributes := #[] }
def k7m7 : Method := { name := "isLatin1", desc := "()Z", sig := { parameters := [], returnType := some .boolean }, accessFlags := 0, code := some k7c7 }
def k7c8 : Code := { maxStack := 3, maxLocals := 2, code := jdk_42_method_155_code, exceptionTable := #[], attributes := #[] }
def k7m8 : Method := { name := "checkIndex", desc := "(II)V", sig := { parameters := [.int, .int], returnType := none }, accessFlags := 8, code := some k7c8 }
/-- java/lang/String -/
def k7 : Class := { plain "java/lang/String" (some 0) with
  accessFlags := 49
  interfaces := #[2, 3, 4, 5, 6]
  cf := some (fileOf pool7 10 #[.nestMembers #[1103]] #[{ accessFlags := 1, nameIndex := 5, descriptorIndex := 6, attributes := #[] }, { accessFlags := 1, nameIndex := 5, descriptorIndex := 1010, attributes := #[] }, { accessFlags := 1, nameIndex := 507, descriptorIndex := 334, attributes := #[] }, { accessFlags := 1, nameIndex := 497, descriptorIndex := 427, attributes := #[] }, { accessFlags := 1, nameIndex := 543, descriptorIndex := 573, attributes := #[] }, { accessFlags := 2, nameIndex := 5, descriptorIndex := 29, attributes := #[] }, { accessFlags := 0, nameIndex := 17, descriptorIndex := 337, attributes := #[] }, { accessFlags := 0, nameIndex := 494, descriptorIndex := 142, attributes := #[] }, { accessFlags := 8, nameIndex := 501, descriptorIndex := 391, attributes := #[] }] 49 2 #[1106, 1108, 575, 1110, 1112] #[{ accessFlags := 18, nameIndex := 13, descriptorIndex := 14, attributes := #[] }, { accessFlags := 18, nameIndex := 17, descriptorIndex := 18, attributes := #[] }, { accessFlags := 2, nameIndex := 21, descriptorIndex := 22, attributes := #[] }, { accessFlags := 2, nameIndex := 25, descriptorIndex := 26, attributes := #[] }, { accessFlags := 26, nameIndex := 1116, descriptorIndex := 1117, attributes := #[] }, { accessFlags := 24, nameIndex := 40, descriptorIndex := 26, attributes := #[] }, { accessFlags := 26, nameIndex := 1101, descriptorIndex := 1102, attributes := #[] }, { accessFlags := 26, nameIndex := 1121, descriptorIndex := 1122, attributes := #[] }, { accessFlags := 25, nameIndex := 599, descriptorIndex := 600, attributes := #[] }, { accessFlags := 24, nameIndex := 1125, descriptorIndex := 18, attributes := #[] }, { accessFlags := 24, nameIndex := 1127, descriptorIndex := 18, attributes := #[] }])
  fields := #[{ name := "value", type := (.array .byte), accessFlags := 18, slot := 0, constantValue := 0 }, { name := "coder", type := .byte, accessFlags := 18, slot := 1, constantValue := 0 }, { name := "hash", type := .int, accessFlags := 2, slot := 2, constantValue := 0 }, { name := "hashIsZero", type := .boolean, accessFlags := 2, slot := 3, constantValue := 0 }, { name := "serialVersionUID", type := .long, accessFlags := 26, slot := 0, constantValue := 0 }, { name := "COMPACT_STRINGS", type := .boolean, accessFlags := 24, slot := 1, constantValue := 0 }, { name := "serialPersistentFields", type := (.array (.object "java/io/ObjectStreamField")), accessFlags := 26, slot := 2, constantValue := 0 }, { name := "REPL", type := .char, accessFlags := 26, slot := 3, constantValue := 0 }, { name := "CASE_INSENSITIVE_ORDER", type := (.object "java/util/Comparator"), accessFlags := 25, slot := 4, constantValue := 0 }, { name := "LATIN1", type := .byte, accessFlags := 24, slot := 5, constantValue := 0 }, { name := "UTF16", type := .byte, accessFlags := 24, slot := 6, constantValue := 0 }]
  methods := #[k7m0, k7m1, k7m2, k7m3, k7m4, k7m5, k7m6, k7m7, k7m8]
  instanceTypes := #[(.array .byte), .byte, .int, .boolean]
  staticTypes := #[.long, .boolean, (.array (.object "java/io/ObjectStreamField")), .char, (.object "java/util/Comparator"), .byte, .byte]
  resolved := Array.replicate 1451 none
  statics := some 0 }

def pool8 : Array CpInfo := pool [(1, .methodref 2 3), (0, .class_ 4), (0, .nameAndType 5 6), (0, u "com/example/payment_retry_queue/paymentretryqueue/AttemptAnswer"), (0, u "<init>"), (0, u "(Lcom/example/payment_retry_queue/paymentretryqueue/AttemptAnswer$Kind;Ljava/lang/String;Ljava/time/Duration;)V"), (0, .methodref 8 9), (0, .class_ 10), (0, .nameAndType 5 11), (0, u "java/lang/Object"), (0, u "()V"), (0, .fieldref 2 13), (0, .nameAndType 14 15), (0, u "kind"), (0, u "Lcom/example/payment_retry_queue/paymentretryqueue/AttemptAnswer$Kind;"), (0, .fieldref 2 17), (0, .nameAndType 18 19), (0, u "reference"), (0, u "Ljava/lang/String;"), (0, .fieldref 2 21), (0, .nameAndType 22 23), (0, u "retryAfter"), (0, u "Ljava/time/Duration;"), (0, .fieldref 25 26), (0, .class_ 27), (0, .nameAndType 28 15), (0, u "com/example/payment_retry_queue/paymentretryqueue/AttemptAnswer$Kind"), (0, u "SUCCEEDED"), (0, .string 18), (0, .methodref 31 32), (0, .class_ 33), (0, .nameAndType 34 35), (0, u "java/util/Objects"), (0, u "requireNonNull"), (0, u "(Ljava/lang/Object;Ljava/lang/String;)Ljava/lang/Object;"), (0, .class_ 37), (0, u "java/lang/String"), (2, u "Lcom/example/payment_retry_queue/paymentretryqueue/AttemptAnswer;"), (2, u "NOT_DELIVERED"), (42, u "UNCERTAIN"), (2, u "DECLINED"), (2, u "DECLINED_SOFT"), (0, .methodref 94 95), (0, .class_ 96), (0, .nameAndType 97 98), (0, u "java/util/Optional"), (0, u "ofNullable"), (0, u "(Ljava/lang/Object;)Ljava/util/Optional;"), (19, u "succeeded"), (0, u "(Ljava/lang/String;)Lcom/example/payment_retry_queue/paymentretryqueue/AttemptAnswer;"), (7, u "()Lcom/example/payment_retry_queue/paymentretryqueue/AttemptAnswer$Kind;"), (0, u "()Ljava/util/Optional;")] 28

def k8c0 : Code := { maxStack := 2, maxLocals := 4, code := prog_1_method_2_code, exceptionTable := #[], attributes := #[] }
def k8m0 : Method := { name := "<init>", desc := "(Lcom/example/payment_retry_queue/paymentretryqueue/AttemptAnswer$Kind;Ljava/lang/String;Ljava/time/Duration;)V", sig := { parameters := [(.object "com/example/payment_retry_queue/paymentretryqueue/AttemptAnswer$Kind"), (.object "java/lang/String"), (.object "java/time/Duration")], returnType := none }, accessFlags := 2, code := some k8c0 }
def k8c1 : Code := { maxStack := 5, maxLocals := 1, code := prog_1_method_3_code, exceptionTable := #[], attributes := #[] }
def k8m1 : Method := { name := "succeeded", desc := "(Ljava/lang/String;)Lcom/example/payment_retry_queue/paymentretryqueue/AttemptAnswer;", sig := { parameters := [(.object "java/lang/String")], returnType := some (.object "com/example/payment_retry_queue/paymentretryqueue/AttemptAnswer") }, accessFlags := 9, code := some k8c1 }
def k8c2 : Code := { maxStack := 1, maxLocals := 1, code := prog_1_method_10_code, exceptionTable := #[], attributes := #[] }
def k8m2 : Method := { name := "kind", desc := "()Lcom/example/payment_retry_queue/paymentretryqueue/AttemptAnswer$Kind;", sig := { parameters := [], returnType := some (.object "com/example/payment_retry_queue/paymentretryqueue/AttemptAnswer$Kind") }, accessFlags := 1, code := some k8c2 }
def k8c3 : Code := { maxStack := 1, maxLocals := 1, code := prog_1_method_11_code, exceptionTable := #[], attributes := #[] }
def k8m3 : Method := { name := "reference", desc := "()Ljava/util/Optional;", sig := { parameters := [], returnType := some (.object "java/util/Optional") }, accessFlags := 1, code := some k8c3 }
def k8c4 : Code := { maxStack := 1, maxLocals := 1, code := prog_1_method_12_code, exceptionTable := #[], attributes := #[] }
def k8m4 : Method := { name := "retryAfter", desc := "()Ljava/util/Optional;", sig := { parameters := [], returnType := some (.object "java/util/Optional") }, accessFlags := 1, code := some k8c4 }
/-- com/example/payment_retry_queue/paymentretryqueue/AttemptAnswer -/
def k8 : Class := { plain "com/example/payment_retry_queue/paymentretryqueue/AttemptAnswer" (some 0) with
  accessFlags := 49
  interfaces := #[]
  cf := some (fileOf pool8 2 #[.nestMembers #[25]] #[{ accessFlags := 2, nameIndex := 5, descriptorIndex := 6, attributes := #[] }, { accessFlags := 9, nameIndex := 118, descriptorIndex := 119, attributes := #[] }, { accessFlags := 1, nameIndex := 14, descriptorIndex := 127, attributes := #[] }, { accessFlags := 1, nameIndex := 18, descriptorIndex := 128, attributes := #[] }, { accessFlags := 1, nameIndex := 22, descriptorIndex := 128, attributes := #[] }] 49 8 #[] #[{ accessFlags := 26, nameIndex := 28, descriptorIndex := 40, attributes := #[] }, { accessFlags := 26, nameIndex := 43, descriptorIndex := 40, attributes := #[] }, { accessFlags := 26, nameIndex := 86, descriptorIndex := 40, attributes := #[] }, { accessFlags := 26, nameIndex := 89, descriptorIndex := 40, attributes := #[] }, { accessFlags := 26, nameIndex := 92, descriptorIndex := 40, attributes := #[] }, { accessFlags := 18, nameIndex := 14, descriptorIndex := 15, attributes := #[] }, { accessFlags := 18, nameIndex := 18, descriptorIndex := 19, attributes := #[] }, { accessFlags := 18, nameIndex := 22, descriptorIndex := 23, attributes := #[] }])
  fields := #[{ name := "SUCCEEDED", type := (.object "com/example/payment_retry_queue/paymentretryqueue/AttemptAnswer"), accessFlags := 26, slot := 0, constantValue := 0 }, { name := "NOT_DELIVERED", type := (.object "com/example/payment_retry_queue/paymentretryqueue/AttemptAnswer"), accessFlags := 26, slot := 1, constantValue := 0 }, { name := "UNCERTAIN", type := (.object "com/example/payment_retry_queue/paymentretryqueue/AttemptAnswer"), accessFlags := 26, slot := 2, constantValue := 0 }, { name := "DECLINED", type := (.object "com/example/payment_retry_queue/paymentretryqueue/AttemptAnswer"), accessFlags := 26, slot := 3, constantValue := 0 }, { name := "DECLINED_SOFT", type := (.object "com/example/payment_retry_queue/paymentretryqueue/AttemptAnswer"), accessFlags := 26, slot := 4, constantValue := 0 }, { name := "kind", type := (.object "com/example/payment_retry_queue/paymentretryqueue/AttemptAnswer$Kind"), accessFlags := 18, slot := 0, constantValue := 0 }, { name := "reference", type := (.object "java/lang/String"), accessFlags := 18, slot := 1, constantValue := 0 }, { name := "retryAfter", type := (.object "java/time/Duration"), accessFlags := 18, slot := 2, constantValue := 0 }]
  methods := #[k8m0, k8m1, k8m2, k8m3, k8m4]
  instanceTypes := #[(.object "com/example/payment_retry_queue/paymentretryqueue/AttemptAnswer$Kind"), (.object "java/lang/String"), (.object "java/time/Duration")]
  staticTypes := #[(.object "com/example/payment_retry_queue/paymentretryqueue/AttemptAnswer"), (.object "com/example/payment_retry_queue/paymentretryqueue/AttemptAnswer"), (.object "com/example/payment_retry_queue/paymentretryqueue/AttemptAnswer"), (.object "com/example/payment_retry_queue/paymentretryqueue/AttemptAnswer"), (.object "com/example/payment_retry_queue/paymentretryqueue/AttemptAnswer")]
  resolved := Array.replicate 157 none
  statics := none }

def pool9 : Array CpInfo := pool [(2, .class_ 4), (1, u "java/lang/Enum"), (0, u "name"), (0, u "Ljava/lang/String;"), (2, u "ordinal"), (0, u "I"), (1, .class_ 14), (1, u "java/lang/Object"), (4, u "hash"), (86, .class_ 108), (1, u "java/lang/Enum$EnumDesc"), (2, .class_ 112), (0, u "java/lang/constant/Constable"), (0, .class_ 114), (0, u "java/lang/Comparable"), (0, .class_ 116), (0, u "java/io/Serializable")] 87

/-- java/lang/Enum -/
def k9 : Class := { plain "java/lang/Enum" (some 0) with
  accessFlags := 1057
  interfaces := #[5, 3, 2]
  cf := some (fileOf pool9 2 #[.nestMembers #[106]] #[] 1057 12 #[111, 113, 115] #[{ accessFlags := 18, nameIndex := 5, descriptorIndex := 6, attributes := #[] }, { accessFlags := 18, nameIndex := 9, descriptorIndex := 10, attributes := #[] }, { accessFlags := 2, nameIndex := 19, descriptorIndex := 10, attributes := #[] }])
  fields := #[{ name := "name", type := (.object "java/lang/String"), accessFlags := 18, slot := 0, constantValue := 0 }, { name := "ordinal", type := .int, accessFlags := 18, slot := 1, constantValue := 0 }, { name := "hash", type := .int, accessFlags := 2, slot := 2, constantValue := 0 }]
  methods := #[]
  instanceTypes := #[(.object "java/lang/String"), .int, .int]
  staticTypes := #[]
  resolved := Array.replicate 204 none
  statics := none }

def pool10 : Array CpInfo := pool [(1, .class_ 2), (0, u "com/example/payment_retry_queue/paymentretryqueue/AttemptAnswer$Kind"), (2, u "SUCCEEDED"), (0, u "Lcom/example/payment_retry_queue/paymentretryqueue/AttemptAnswer$Kind;"), (2, u "NOT_DELIVERED"), (2, u "UNCERTAIN"), (2, u "DECLINED"), (2, u "DECLINED_SOFT"), (2, u "$VALUES"), (0, u "[Lcom/example/payment_retry_queue/paymentretryqueue/AttemptAnswer$Kind;"), (6, .class_ 31), (1, u "java/lang/Enum"), (8, u "verdict"), (0, u "Lcom/example/payment_retry_queue/paymentretryqueue/Verdict;"), (2, u "processed"), (0, u "Z"), (57, .class_ 104), (0, u "com/example/payment_retry_queue/paymentretryqueue/AttemptAnswer")] 2

/-- com/example/payment_retry_queue/paymentretryqueue/AttemptAnswer$Kind -/
def k10 : Class := { plain "com/example/payment_retry_queue/paymentretryqueue/AttemptAnswer$Kind" (some 9) with
  accessFlags := 16433
  interfaces := #[]
  cf := some (fileOf pool10 1 #[.nestHost 103] #[] 16433 29 #[] #[{ accessFlags := 16409, nameIndex := 5, descriptorIndex := 6, attributes := #[] }, { accessFlags := 16409, nameIndex := 9, descriptorIndex := 6, attributes := #[] }, { accessFlags := 16409, nameIndex := 12, descriptorIndex := 6, attributes := #[] }, { accessFlags := 16409, nameIndex := 15, descriptorIndex := 6, attributes := #[] }, { accessFlags := 16409, nameIndex := 18, descriptorIndex := 6, attributes := #[] }, { accessFlags := 18, nameIndex := 40, descriptorIndex := 41, attributes := #[] }, { accessFlags := 18, nameIndex := 44, descriptorIndex := 45, attributes := #[] }, { accessFlags := 4122, nameIndex := 21, descriptorIndex := 22, attributes := #[] }])
  fields := #[{ name := "SUCCEEDED", type := (.object "com/example/payment_retry_queue/paymentretryqueue/AttemptAnswer$Kind"), accessFlags := 16409, slot := 0, constantValue := 0 }, { name := "NOT_DELIVERED", type := (.object "com/example/payment_retry_queue/paymentretryqueue/AttemptAnswer$Kind"), accessFlags := 16409, slot := 1, constantValue := 0 }, { name := "UNCERTAIN", type := (.object "com/example/payment_retry_queue/paymentretryqueue/AttemptAnswer$Kind"), accessFlags := 16409, slot := 2, constantValue := 0 }, { name := "DECLINED", type := (.object "com/example/payment_retry_queue/paymentretryqueue/AttemptAnswer$Kind"), accessFlags := 16409, slot := 3, constantValue := 0 }, { name := "DECLINED_SOFT", type := (.object "com/example/payment_retry_queue/paymentretryqueue/AttemptAnswer$Kind"), accessFlags := 16409, slot := 4, constantValue := 0 }, { name := "verdict", type := (.object "com/example/payment_retry_queue/paymentretryqueue/Verdict"), accessFlags := 18, slot := 3, constantValue := 0 }, { name := "processed", type := .boolean, accessFlags := 18, slot := 4, constantValue := 0 }, { name := "$VALUES", type := (.array (.object "com/example/payment_retry_queue/paymentretryqueue/AttemptAnswer$Kind")), accessFlags := 4122, slot := 5, constantValue := 0 }]
  methods := #[]
  instanceTypes := #[(.object "java/lang/String"), .int, .int, (.object "com/example/payment_retry_queue/paymentretryqueue/Verdict"), .boolean]
  staticTypes := #[(.object "com/example/payment_retry_queue/paymentretryqueue/AttemptAnswer$Kind"), (.object "com/example/payment_retry_queue/paymentretryqueue/AttemptAnswer$Kind"), (.object "com/example/payment_retry_queue/paymentretryqueue/AttemptAnswer$Kind"), (.object "com/example/payment_retry_queue/paymentretryqueue/AttemptAnswer$Kind"), (.object "com/example/payment_retry_queue/paymentretryqueue/AttemptAnswer$Kind"), (.array (.object "com/example/payment_retry_queue/paymentretryqueue/AttemptAnswer$Kind"))]
  resolved := Array.replicate 107 none
  statics := some 1 }

def pool11 : Array CpInfo := pool [(2, .class_ 4), (1, u "java/lang/Object"), (0, u "<init>"), (0, u "()V"), (35, .class_ 44), (1, u "java/util/Objects"), (0, u "requireNonNull"), (48, u "(Ljava/lang/Object;Ljava/lang/String;)Ljava/lang/Object;")] 89

def k11m0 : Method := { name := "<init>", desc := "()V", sig := { parameters := [], returnType := none }, accessFlags := 2, code := none }
def k11c1 : Code := { maxStack := 3, maxLocals := 2, code := jdk_31_method_11_code, exceptionTable := #[], attributes := #[] }
def k11m1 : Method := { name := "requireNonNull", desc := "(Ljava/lang/Object;Ljava/lang/String;)Ljava/lang/Object;", sig := { parameters := [(.object "java/lang/Object"), (.object "java/lang/String")], returnType := some (.object "java/lang/Object") }, accessFlags := 9, code := some k11c1 }
/-- java/util/Objects -/
def k11 : Class := { plain "java/util/Objects" (some 0) with
  accessFlags := 49
  interfaces := #[]
  cf := some (fileOf pool11 42 #[] #[{ accessFlags := 2, nameIndex := 5, descriptorIndex := 6, attributes := #[] }, { accessFlags := 9, nameIndex := 45, descriptorIndex := 94, attributes := #[] }] 49 2 #[] #[])
  fields := #[]
  methods := #[k11m0, k11m1]
  instanceTypes := #[]
  staticTypes := #[]
  resolved := Array.replicate 184 none
  statics := none }

def pool12 : Array CpInfo := pool [(1, .fieldref 2 3), (0, .class_ 4), (0, .nameAndType 5 6), (0, u "java/util/Optional"), (0, u "EMPTY"), (0, u "Ljava/util/Optional;"), (0, .methodref 8 9), (0, .class_ 10), (0, .nameAndType 11 12), (0, u "java/lang/Object"), (0, u "<init>"), (0, u "()V"), (0, .fieldref 2 14), (0, .nameAndType 15 16), (0, u "value"), (0, u "Ljava/lang/Object;"), (6, .methodref 2 24), (0, .nameAndType 11 25), (0, u "(Ljava/lang/Object;)V"), (20, u "()Z"), (17, u "ofNullable"), (0, u "(Ljava/lang/Object;)Ljava/util/Optional;"), (2, u "isPresent"), (4, u "get"), (0, u "()Ljava/lang/Object;")] 112

def k12c0 : Code := { maxStack := 2, maxLocals := 2, code := jdk_32_method_2_code, exceptionTable := #[], attributes := #[] }
def k12m0 : Method := { name := "<init>", desc := "(Ljava/lang/Object;)V", sig := { parameters := [(.object "java/lang/Object")], returnType := none }, accessFlags := 2, code := some k12c0 }
def k12c1 : Code := { maxStack := 3, maxLocals := 1, code := jdk_32_method_4_code, exceptionTable := #[], attributes := #[] }
def k12m1 : Method := { name := "ofNullable", desc := "(Ljava/lang/Object;)Ljava/util/Optional;", sig := { parameters := [(.object "java/lang/Object")], returnType := some (.object "java/util/Optional") }, accessFlags := 9, code := some k12c1 }
def k12c2 : Code := { maxStack := 3, maxLocals := 1, code := jdk_32_method_5_code, exceptionTable := #[], attributes := #[] }
def k12m2 : Method := { name := "get", desc := "()Ljava/lang/Object;", sig := { parameters := [], returnType := some (.object "java/lang/Object") }, accessFlags := 1, code := some k12c2 }
def k12c3 : Code := { maxStack := 1, maxLocals := 1, code := jdk_32_method_6_code, exceptionTable := #[], attributes := #[] }
def k12m3 : Method := { name := "isPresent", desc := "()Z", sig := { parameters := [], returnType := some .boolean }, accessFlags := 1, code := some k12c3 }
/-- java/util/Optional -/
def k12 : Class := { plain "java/util/Optional" (some 0) with
  accessFlags := 49
  interfaces := #[]
  cf := some (fileOf pool12 2 #[] #[{ accessFlags := 2, nameIndex := 11, descriptorIndex := 25, attributes := #[] }, { accessFlags := 9, nameIndex := 64, descriptorIndex := 65, attributes := #[] }, { accessFlags := 1, nameIndex := 73, descriptorIndex := 74, attributes := #[] }, { accessFlags := 1, nameIndex := 68, descriptorIndex := 46, attributes := #[] }] 49 8 #[] #[{ accessFlags := 26, nameIndex := 5, descriptorIndex := 6, attributes := #[] }, { accessFlags := 18, nameIndex := 15, descriptorIndex := 16, attributes := #[] }])
  fields := #[{ name := "EMPTY", type := (.object "java/util/Optional"), accessFlags := 26, slot := 0, constantValue := 0 }, { name := "value", type := (.object "java/lang/Object"), accessFlags := 18, slot := 0, constantValue := 0 }]
  methods := #[k12m0, k12m1, k12m2, k12m3]
  instanceTypes := #[(.object "java/lang/Object")]
  staticTypes := #[(.object "java/util/Optional")]
  resolved := Array.replicate 187 none
  statics := some 2 }

def pool13 : Array CpInfo := pool [(3, .class_ 4), (0, u "java/lang/String"), (1, .class_ 8), (1, u "java/lang/Object"), (0, u "<init>"), (0, u "()V"), (0, .methodref 12 13), (0, .class_ 14), (0, .nameAndType 15 16), (0, u "java/lang/StringUTF16"), (0, u "newBytesLength"), (0, u "(I)I"), (3, .integer 1073741823), (23, .fieldref 12 45), (0, .nameAndType 46 47), (0, u "$assertionsDisabled"), (0, u "Z"), (0, .methodref 12 49), (0, .nameAndType 50 51), (0, u "length"), (0, u "([B)I"), (7, .fieldref 12 60), (0, .nameAndType 61 62), (0, u "HI_BYTE_SHIFT"), (0, u "I"), (0, .fieldref 12 64), (0, .nameAndType 65 62), (0, u "LO_BYTE_SHIFT"), (1, .methodref 12 68), (0, .nameAndType 69 70), (0, u "checkIndex"), (0, u "(I[B)V"), (0, .methodref 12 72), (0, .nameAndType 73 74), (0, u "getChar"), (0, u "([BI)C"), (32, .methodref 12 108), (0, .nameAndType 109 110), (0, u "newBytesFor"), (0, u "(I)[B"), (0, .methodref 12 112), (0, .nameAndType 113 114), (0, u "putChar"), (0, u "([BII)V"), (0, .methodref 12 116), (0, .nameAndType 117 118), (0, u "compress"), (0, u "([CI[BII)I"), (0, .methodref 12 120), (0, .nameAndType 121 122), (0, u "toBytes"), (0, u "([CII)[B"), (138, u "coderFromArrayLen"), (0, u "([BI)B"), (106, .class_ 371), (1, u "java/lang/StringUTF16$LinesSpliterator"), (20, u "charAt"), (21, .methodref 3 415), (0, .nameAndType 69 416), (0, u "(II)V"), (13, u "MAX_LENGTH"), (196, .class_ 628), (0, u "java/lang/StringUTF16$CodePointsSpliterator"), (0, .class_ 630), (0, u "java/lang/StringUTF16$CharsSpliterator")] 4

def k13m0 : Method := { name := "<init>", desc := "()V", sig := { parameters := [], returnType := none }, accessFlags := 0, code := none }
def k13c1 : Code := { maxStack := 1, maxLocals := 1, code := jdk_52_method_2_code, exceptionTable := #[], attributes := #[] }
def k13m1 : Method := { name := "newBytesFor", desc := "(I)[B", sig := { parameters := [.int], returnType := some (.array .byte) }, accessFlags := 9, code := some k13c1 }
def k13c2 : Code := { maxStack := 4, maxLocals := 1, code := jdk_52_method_3_code, exceptionTable := #[], attributes := #[] }
def k13m2 : Method := { name := "newBytesLength", desc := "(I)I", sig := { parameters := [.int], returnType := some .int }, accessFlags := 9, code := some k13c2 }
def k13c3 : Code := { maxStack := 4, maxLocals := 3, code := jdk_52_method_4_code, exceptionTable := #[], attributes := #[] }
def k13m3 : Method := { name := "putChar", desc := "([BII)V", sig := { parameters := [(.array .byte), .int, .int], returnType := none }, accessFlags := 8, code := some k13c3 }
def k13c4 : Code := { maxStack := 3, maxLocals := 2, code := jdk_52_method_5_code, exceptionTable := #[], attributes := #[] }
def k13m4 : Method := { name := "getChar", desc := "([BI)C", sig := { parameters := [(.array .byte), .int], returnType := some .char }, accessFlags := 8, code := some k13c4 }
def k13c5 : Code := { maxStack := 2, maxLocals := 1, code := jdk_52_method_6_code, exceptionTable := #[], attributes := #[] }
def k13m5 : Method := { name := "length", desc := "([B)I", sig := { parameters := [(.array .byte)], returnType := some .int }, accessFlags := 9, code := some k13c5 }
def k13c6 : Code := { maxStack := 4, maxLocals := 5, code := jdk_52_method_14_code, exceptionTable := #[], attributes := #[] }
def k13m6 : Method := { name := "toBytes", desc := "([CII)[B", sig := { parameters := [(.array .char), .int, .int], returnType := some (.array .byte) }, accessFlags := 9, code := some k13c6 }
def k13c7 : Code := { maxStack := 2, maxLocals := 2, code := jdk_52_method_15_code, exceptionTable := #[], attributes := #[] }
def k13m7 : Method := { name := "coderFromArrayLen", desc := "([BI)B", sig := { parameters := [(.array .byte), .int], returnType := some .byte }, accessFlags := 8, code := some k13c7 }
def k13c8 : Code := { maxStack := 5, maxLocals := 6, code := jdk_52_method_16_code, exceptionTable := #[], attributes := #[] }
def k13m8 : Method := { name := "compress", desc := "([CII)[B", sig := { parameters := [(.array .char), .int, .int], returnType := some (.array .byte) }, accessFlags := 9, code := some k13c8 }
def k13c9 : Code := { maxStack := 3, maxLocals := 7, code := jdk_52_method_21_code, exceptionTable := #[], attributes := #[] }
def k13m9 : Method := { name := "compress", desc := "([CI[BII)I", sig := { parameters := [(.array .char), .int, (.array .byte), .int, .int], returnType := some .int }, accessFlags := 9, code := some k13c9 }
def k13c10 : Code := { maxStack := 2, maxLocals := 2, code := jdk_52_method_83_code, exceptionTable := #[], attributes := #[] }
def k13m10 : Method := { name := "charAt", desc := "([BI)C", sig := { parameters := [(.array .byte), .int], returnType := some .char }, accessFlags := 9, code := some k13c10 }
def k13c11 : Code := { maxStack := 2, maxLocals := 2, code := jdk_52_method_91_code, exceptionTable := #[], attributes := #[] }
def k13m11 : Method := { name := "checkIndex", desc := "(I[B)V", sig := { parameters := [.int, (.array .byte)], returnType := none }, accessFlags := 9, code := some k13c11 }
/-- java/lang/StringUTF16 -/
def k13 : Class := { plain "java/lang/StringUTF16" (some 0) with
  accessFlags := 48
  interfaces := #[]
  cf := some (fileOf pool13 12 #[.nestMembers #[627, 629, 369]] #[{ accessFlags := 0, nameIndex := 9, descriptorIndex := 10, attributes := #[] }, { accessFlags := 9, nameIndex := 109, descriptorIndex := 110, attributes := #[] }, { accessFlags := 9, nameIndex := 15, descriptorIndex := 16, attributes := #[] }, { accessFlags := 8, nameIndex := 113, descriptorIndex := 114, attributes := #[] }, { accessFlags := 8, nameIndex := 73, descriptorIndex := 74, attributes := #[] }, { accessFlags := 9, nameIndex := 50, descriptorIndex := 51, attributes := #[] }, { accessFlags := 9, nameIndex := 121, descriptorIndex := 122, attributes := #[] }, { accessFlags := 8, nameIndex := 261, descriptorIndex := 262, attributes := #[] }, { accessFlags := 9, nameIndex := 117, descriptorIndex := 122, attributes := #[] }, { accessFlags := 9, nameIndex := 117, descriptorIndex := 118, attributes := #[] }, { accessFlags := 9, nameIndex := 392, descriptorIndex := 74, attributes := #[] }, { accessFlags := 9, nameIndex := 69, descriptorIndex := 70, attributes := #[] }] 48 6 #[] #[{ accessFlags := 26, nameIndex := 61, descriptorIndex := 62, attributes := #[] }, { accessFlags := 26, nameIndex := 65, descriptorIndex := 62, attributes := #[] }, { accessFlags := 24, nameIndex := 430, descriptorIndex := 62, attributes := #[] }, { accessFlags := 4120, nameIndex := 46, descriptorIndex := 47, attributes := #[] }])
  fields := #[{ name := "HI_BYTE_SHIFT", type := .int, accessFlags := 26, slot := 0, constantValue := 0 }, { name := "LO_BYTE_SHIFT", type := .int, accessFlags := 26, slot := 1, constantValue := 0 }, { name := "MAX_LENGTH", type := .int, accessFlags := 24, slot := 2, constantValue := 0 }, { name := "$assertionsDisabled", type := .boolean, accessFlags := 4120, slot := 3, constantValue := 0 }]
  methods := #[k13m0, k13m1, k13m2, k13m3, k13m4, k13m5, k13m6, k13m7, k13m8, k13m9, k13m10, k13m11]
  instanceTypes := #[]
  staticTypes := #[.int, .int, .int, .boolean]
  resolved := Array.replicate 635 none
  statics := some 3 }

def pool14 : Array CpInfo := pool [(1, .class_ 2), (0, u "java/lang/String"), (1, .class_ 6), (1, u "java/lang/Object"), (0, u "<init>"), (0, u "()V"), (0, .methodref 1 10), (0, .nameAndType 11 12), (0, u "checkIndex"), (0, u "(II)V"), (1, .class_ 16), (1, u "java/lang/StringLatin1"), (36, u "([BI)C"), (67, u "$assertionsDisabled"), (0, u "Z"), (98, .class_ 223), (1, u "java/lang/StringLatin1$LinesSpliterator"), (28, u "charAt"), (137, .class_ 391), (0, u "java/lang/StringLatin1$CharsSpliterator")] 3

def k14m0 : Method := { name := "<init>", desc := "()V", sig := { parameters := [], returnType := none }, accessFlags := 0, code := none }
def k14c1 : Code := { maxStack := 2, maxLocals := 2, code := jdk_43_method_2_code, exceptionTable := #[], attributes := #[] }
def k14m1 : Method := { name := "charAt", desc := "([BI)C", sig := { parameters := [(.array .byte), .int], returnType := some .char }, accessFlags := 9, code := some k14c1 }
/-- java/lang/StringLatin1 -/
def k14 : Class := { plain "java/lang/StringLatin1" (some 0) with
  accessFlags := 48
  interfaces := #[]
  cf := some (fileOf pool14 14 #[.nestMembers #[390, 221]] #[{ accessFlags := 0, nameIndex := 7, descriptorIndex := 8, attributes := #[] }, { accessFlags := 9, nameIndex := 252, descriptorIndex := 53, attributes := #[] }] 48 4 #[] #[{ accessFlags := 4120, nameIndex := 121, descriptorIndex := 122, attributes := #[] }])
  fields := #[{ name := "$assertionsDisabled", type := .boolean, accessFlags := 4120, slot := 0, constantValue := 0 }]
  methods := #[k14m0, k14m1]
  instanceTypes := #[]
  staticTypes := #[.boolean]
  resolved := Array.replicate 395 none
  statics := none }

def pool15 : Array CpInfo := pool [(2, .class_ 4), (1, u "java/lang/Object"), (0, u "<init>"), (0, u "()V"), (17, .class_ 26), (1, u "jdk/internal/util/Preconditions"), (6, u "checkIndex"), (21, .class_ 56), (0, u "jdk/internal/util/Preconditions$4"), (57, .class_ 115), (0, u "jdk/internal/util/Preconditions$1"), (7, u "SIOOBE_FORMATTER"), (0, u "Ljava/util/function/BiFunction;"), (0, .class_ 126), (0, u "jdk/internal/util/Preconditions$2"), (3, u "AIOOBE_FORMATTER"), (0, .class_ 132), (0, u "jdk/internal/util/Preconditions$3"), (3, u "IOOBE_FORMATTER"), (41, u "(IILjava/util/function/BiFunction;)I")] 15

def k15m0 : Method := { name := "<init>", desc := "()V", sig := { parameters := [], returnType := none }, accessFlags := 1, code := none }
def k15c1 : Code := { maxStack := 3, maxLocals := 3, code := jdk_41_method_11_code, exceptionTable := #[], attributes := #[] }
def k15m1 : Method := { name := "checkIndex", desc := "(IILjava/util/function/BiFunction;)I", sig := { parameters := [.int, .int, (.object "java/util/function/BiFunction")], returnType := some .int }, accessFlags := 9, code := some k15c1 }
/-- jdk/internal/util/Preconditions -/
def k15 : Class := { plain "jdk/internal/util/Preconditions" (some 0) with
  accessFlags := 33
  interfaces := #[]
  cf := some (fileOf pool15 24 #[.nestMembers #[55, 131, 125, 114]] #[{ accessFlags := 1, nameIndex := 5, descriptorIndex := 6, attributes := #[] }, { accessFlags := 9, nameIndex := 33, descriptorIndex := 178, attributes := #[] }] 33 2 #[] #[{ accessFlags := 25, nameIndex := 123, descriptorIndex := 124, attributes := #[] }, { accessFlags := 25, nameIndex := 130, descriptorIndex := 124, attributes := #[] }, { accessFlags := 25, nameIndex := 136, descriptorIndex := 124, attributes := #[] }])
  fields := #[{ name := "SIOOBE_FORMATTER", type := (.object "java/util/function/BiFunction"), accessFlags := 25, slot := 0, constantValue := 0 }, { name := "AIOOBE_FORMATTER", type := (.object "java/util/function/BiFunction"), accessFlags := 25, slot := 1, constantValue := 0 }, { name := "IOOBE_FORMATTER", type := (.object "java/util/function/BiFunction"), accessFlags := 25, slot := 2, constantValue := 0 }]
  methods := #[k15m0, k15m1]
  instanceTypes := #[]
  staticTypes := #[(.object "java/util/function/BiFunction"), (.object "java/util/function/BiFunction"), (.object "java/util/function/BiFunction")]
  resolved := Array.replicate 194 none
  statics := some 4 }

def pool16 : Array CpInfo := pool [(9, u "<init>"), (6, .class_ 18), (1, u "java/lang/Object"), (0, u "()V"), (1, .class_ 23), (1, u "jdk/internal/util/ArraysSupport"), (0, u "LOG2_ARRAY_LONG_INDEX_SCALE"), (0, u "I"), (2, u "U"), (0, u "Ljdk/internal/misc/Unsafe;"), (8, u "BIG_ENDIAN"), (0, u "Z"), (8, u "LOG2_BYTE_BIT_SIZE"), (4, u "LOG2_ARRAY_INT_INDEX_SCALE"), (54, u "JLA"), (0, u "Ljdk/internal/access/JavaLangAccess;"), (11, u "LOG2_ARRAY_BOOLEAN_INDEX_SCALE"), (9, u "LOG2_ARRAY_BYTE_INDEX_SCALE"), (5, u "LOG2_ARRAY_CHAR_INDEX_SCALE"), (5, u "LOG2_ARRAY_SHORT_INDEX_SCALE"), (18, u "LOG2_ARRAY_FLOAT_INDEX_SCALE"), (24, u "LOG2_ARRAY_DOUBLE_INDEX_SCALE"), (89, u "T_BOOLEAN"), (2, u "T_CHAR"), (1, u "T_FLOAT"), (1, u "T_DOUBLE"), (1, u "T_BYTE"), (1, u "T_SHORT"), (1, u "T_INT"), (1, u "T_LONG"), (1, u "SOFT_MAX_ARRAY_LENGTH")] 83

def k16m0 : Method := { name := "<init>", desc := "()V", sig := { parameters := [], returnType := none }, accessFlags := 2, code := none }
/-- jdk/internal/util/ArraysSupport -/
def k16 : Class := { plain "jdk/internal/util/ArraysSupport" (some 0) with
  accessFlags := 33
  interfaces := #[]
  cf := some (fileOf pool16 21 #[] #[{ accessFlags := 2, nameIndex := 9, descriptorIndex := 19, attributes := #[] }] 33 16 #[] #[{ accessFlags := 24, nameIndex := 28, descriptorIndex := 29, attributes := #[] }, { accessFlags := 26, nameIndex := 38, descriptorIndex := 39, attributes := #[] }, { accessFlags := 25, nameIndex := 121, descriptorIndex := 25, attributes := #[] }, { accessFlags := 25, nameIndex := 131, descriptorIndex := 25, attributes := #[] }, { accessFlags := 25, nameIndex := 137, descriptorIndex := 25, attributes := #[] }, { accessFlags := 25, nameIndex := 143, descriptorIndex := 25, attributes := #[] }, { accessFlags := 25, nameIndex := 53, descriptorIndex := 25, attributes := #[] }, { accessFlags := 25, nameIndex := 24, descriptorIndex := 25, attributes := #[] }, { accessFlags := 25, nameIndex := 162, descriptorIndex := 25, attributes := #[] }, { accessFlags := 25, nameIndex := 187, descriptorIndex := 25, attributes := #[] }, { accessFlags := 26, nameIndex := 48, descriptorIndex := 25, attributes := #[] }, { accessFlags := 25, nameIndex := 277, descriptorIndex := 25, attributes := #[] }, { accessFlags := 25, nameIndex := 280, descriptorIndex := 25, attributes := #[] }, { accessFlags := 25, nameIndex := 282, descriptorIndex := 25, attributes := #[] }, { accessFlags := 25, nameIndex := 284, descriptorIndex := 25, attributes := #[] }, { accessFlags := 25, nameIndex := 286, descriptorIndex := 25, attributes := #[] }, { accessFlags := 25, nameIndex := 288, descriptorIndex := 25, attributes := #[] }, { accessFlags := 25, nameIndex := 290, descriptorIndex := 25, attributes := #[] }, { accessFlags := 25, nameIndex := 292, descriptorIndex := 25, attributes := #[] }, { accessFlags := 26, nameIndex := 108, descriptorIndex := 109, attributes := #[] }, { accessFlags := 25, nameIndex := 294, descriptorIndex := 25, attributes := #[] }])
  fields := #[{ name := "U", type := (.object "jdk/internal/misc/Unsafe"), accessFlags := 24, slot := 0, constantValue := 0 }, { name := "BIG_ENDIAN", type := .boolean, accessFlags := 26, slot := 1, constantValue := 0 }, { name := "LOG2_ARRAY_BOOLEAN_INDEX_SCALE", type := .int, accessFlags := 25, slot := 2, constantValue := 0 }, { name := "LOG2_ARRAY_BYTE_INDEX_SCALE", type := .int, accessFlags := 25, slot := 3, constantValue := 0 }, { name := "LOG2_ARRAY_CHAR_INDEX_SCALE", type := .int, accessFlags := 25, slot := 4, constantValue := 0 }, { name := "LOG2_ARRAY_SHORT_INDEX_SCALE", type := .int, accessFlags := 25, slot := 5, constantValue := 0 }, { name := "LOG2_ARRAY_INT_INDEX_SCALE", type := .int, accessFlags := 25, slot := 6, constantValue := 0 }, { name := "LOG2_ARRAY_LONG_INDEX_SCALE", type := .int, accessFlags := 25, slot := 7, constantValue := 0 }, { name := "LOG2_ARRAY_FLOAT_INDEX_SCALE", type := .int, accessFlags := 25, slot := 8, constantValue := 0 }, { name := "LOG2_ARRAY_DOUBLE_INDEX_SCALE", type := .int, accessFlags := 25, slot := 9, constantValue := 0 }, { name := "LOG2_BYTE_BIT_SIZE", type := .int, accessFlags := 26, slot := 10, constantValue := 0 }, { name := "T_BOOLEAN", type := .int, accessFlags := 25, slot := 11, constantValue := 0 }, { name := "T_CHAR", type := .int, accessFlags := 25, slot := 12, constantValue := 0 }, { name := "T_FLOAT", type := .int, accessFlags := 25, slot := 13, constantValue := 0 }, { name := "T_DOUBLE", type := .int, accessFlags := 25, slot := 14, constantValue := 0 }, { name := "T_BYTE", type := .int, accessFlags := 25, slot := 15, constantValue := 0 }, { name := "T_SHORT", type := .int, accessFlags := 25, slot := 16, constantValue := 0 }, { name := "T_INT", type := .int, accessFlags := 25, slot := 17, constantValue := 0 }, { name := "T_LONG", type := .int, accessFlags := 25, slot := 18, constantValue := 0 }, { name := "JLA", type := (.object "jdk/internal/access/JavaLangAccess"), accessFlags := 26, slot := 19, constantValue := 0 }, { name := "SOFT_MAX_ARRAY_LENGTH", type := .int, accessFlags := 25, slot := 20, constantValue := 0 }]
  methods := #[k16m0]
  instanceTypes := #[]
  staticTypes := #[(.object "jdk/internal/misc/Unsafe"), .boolean, .int, .int, .int, .int, .int, .int, .int, .int, .int, .int, .int, .int, .int, .int, .int, .int, .int, (.object "jdk/internal/access/JavaLangAccess"), .int]
  resolved := Array.replicate 378 none
  statics := none }

def pool17 : Array CpInfo := pool [(1, u "java/lang/Cloneable"), (0, .class_ 1), (0, u "java/lang/Object"), (0, .class_ 3)] 3

/-- java/lang/Cloneable -/
def k17 : Class := { plain "java/lang/Cloneable" (some 0) with
  accessFlags := 1537
  interfaces := #[]
  cf := some (fileOf pool17 2 #[] #[] 1537 4 #[] #[])
  fields := #[]
  methods := #[]
  instanceTypes := #[]
  staticTypes := #[]
  resolved := Array.replicate 8 none
  statics := none }

/-- the primitive byte -/
def k18 : Class := { plain "byte" none with kind := .primitive 'B', accessFlags := 0x411 }
/-- [B -/
def k19 : Class := { plain "[B" (some 0) with kind := .array 18 .byte, interfaces := #[17, 2], accessFlags := 1041 }

/-- the primitive char -/
def k20 : Class := { plain "char" none with kind := .primitive 'C', accessFlags := 0x411 }
/-- [C -/
def k21 : Class := { plain "[C" (some 0) with kind := .array 20 .char, interfaces := #[17, 2], accessFlags := 1041 }

/-- the primitive int -/
def k22 : Class := { plain "int" none with kind := .primitive 'I', accessFlags := 0x411 }
/-- [I -/
def k23 : Class := { plain "[I" (some 0) with kind := .array 22 .int, interfaces := #[17, 2], accessFlags := 1041 }

def heap : Heap := #[{ cls := 7, slots := #[.long 0, .int 1, .null, .int 0, .null, .int 0, .int 0], vm := .statics 7 },
  { cls := 10, slots := #[.ref 5, .null, .null, .null, .null, .null], vm := .statics 10 },
  { cls := 12, slots := #[.ref 6], vm := .statics 12 },
  { cls := 13, slots := #[.int 0, .int 8, .int 0, .int 1], vm := .statics 13 },
  { cls := 15, slots := #[.null, .null, .null], vm := .statics 15 },
  { cls := 10, slots := #[.null, .int 0, .int 0, .null, .int 0], vm := .none },
  { cls := 12, slots := #[.null], vm := .none }]
def classes : Array Class := #[k0, k1, k2, k3, k4, k5, k6, k7, k8, k9, k10, k11, k12, k13, k14, k15, k16, k17, k18, k19, k20, k21, k22, k23]
def interned : List (Array UInt16 × Addr) := []
def slotsUsed : Nat := 27
def theMethod : MethodId := ⟨1, 2⟩
def args0 : Array Value := #[.int 1, .int 65, .int 66, .int 0]
def aboutOver (below : List Frame) : State where
  vm := { classes := classes, interned := interned.toArray }
  heap := heap
  slotsUsed := slotsUsed
  threads := #[{ frames := .invoking theMethod args0 :: below }]
def below0 : List Frame := [.native { method := ⟨0, 0⟩, args := #[] }]
def about1 : State := aboutOver below0
def p0 : Program := .bare "" "" ""
def e0 : Env := launch0.env 0 0 0
theorem w_frames : about1.frames = Frame.invoking theMethod args0 :: below0 := rfl
set_option maxRecDepth 65536 in
theorem w_args : argsFit about1.vm theMethod args0 = true := by decide +kernel
set_option maxRecDepth 65536 in
theorem w_heap : heapFits about1 = true := by decide +kernel
set_option maxRecDepth 65536 in
theorem w_runnable : about1.curStatus? = some .runnable := by decide +kernel
set_option maxRecDepth 65536 in
theorem w_alone : about1.alone = true := by decide +kernel
set_option maxRecDepth 65536 in
theorem w_named : about1.methodNamed? x = some theMethod := by decide +kernel
set_option maxRecDepth 65536 in
theorem w_hears : about1.hears theMethod below0 = true := by decide +kernel
set_option maxRecDepth 65536 in
theorem w_ripe : about1.ripe theMethod args0 below0 = true := by decide +kernel
theorem w_running : about1.status = .running := rfl
set_option maxRecDepth 65536 in
theorem w_room : about1.hasRoom e0.platform room_1 = true :=
  launch0.hasRoom_least _ room_1 (by decide +kernel) (by decide +kernel) (by decide +kernel) (by decide +kernel) (by decide +kernel) (by decide +kernel)
theorem allAtoms_all (ts : List Jvm.Cond) (a : Array Jvm.Value) (st : Jvm.State) : (allAtoms ts).before a st = ts.all (fun c => c.before a st) := by
  induction ts with
  | nil => rfl
  | cons c t ih =>
    show (Jvm.Cond.and c (allAtoms t)).before a st = _
    rw [Jvm.Cond.before_and, ih, List.all_cons]
def words1 : List Jvm.Cond := Jvm.Cond.code x code maxLocals ret :: tables_1
/-- a 'code' word, met by the world's own term for the bytes: nothing is compared byte by byte -/
theorem code_word {y : MethodName} {bytes : ByteArray} {mx : Nat} {rt : Option FieldType} {a : Array Value} {s : State} {m : MethodId} {meth : Method} {c : Code} (h1 : s.methodNamed? y = some m) (h2 : s.vm.method? m = some meth) (h3 : meth.code = some c) (h4 : c.code = bytes)
    (h5 : (c.maxLocals == mx && c.exceptionTable.isEmpty && decide (c.maxStack ≤ mostOperands) && decide (meth.sig.returnType = rt) && !meth.locks && decide (parseMethodDescriptor y.desc = some meth.sig)) = true) : (Jvm.Cond.code y bytes mx rt).before a s = true := by
  simp only [Bool.and_eq_true, beq_iff_eq, Bool.not_eq_true', decide_eq_true_eq] at h5
  obtain ⟨⟨⟨⟨⟨g1, g2⟩, g3⟩, g4⟩, g5⟩, g6⟩ := h5
  simp [Cond.before, Cond.holds, Cond.value, h1, h2, h3, h4, g1, g2, g3, g4, g5, g6]
def isCode : Jvm.Cond → Bool
  | .code _ _ _ _ => true
  | _ => false
theorem all_split {L : List Jvm.Cond} {P : Jvm.Cond → Bool} (h1 : L.all (fun c => isCode c || P c) = true) (h2 : ∀ c ∈ L.filter isCode, P c = true) : L.all P = true := by
  refine List.all_eq_true.mpr fun c hc => ?_
  have h := List.all_eq_true.mp h1 c hc
  rcases Bool.eq_false_or_eq_true (isCode c) with hi | hi
  · exact h2 c (List.mem_filter.mpr ⟨hc, hi⟩)
  · simpa [hi] using h
set_option maxRecDepth 65536 in
theorem w_c0 : (Jvm.Cond.code x code maxLocals ret).before args0 about1 = true := code_word (m := ⟨1, 2⟩) (meth := k1m2) (c := k1c2) (by decide +kernel) rfl rfl rfl (by decide +kernel)
set_option maxRecDepth 65536 in
theorem w_c1 : (Jvm.Cond.code ({ cls := "com/example/payment_retry_queue/paymentretryqueue/AttemptAnswerSucceededPinLaw", name := "make", desc := "(ICCC)Ljava/lang/String;" } : Jvm.MethodName) method_2_code (5 : Nat) (Option.some (Jvm.ClassFile.FieldType.object "java/lang/String"))).before args0 about1 = true := code_word (m := ⟨1, 1⟩) (meth := k1m1) (c := k1c1) (by decide +kernel) rfl rfl rfl (by decide +kernel)
set_option maxRecDepth 65536 in
theorem w_c2 : (Jvm.Cond.code ({ cls := "java/lang/String", name := "<init>", desc := "([C)V" } : Jvm.MethodName) jdk_42_method_3_code (2 : Nat) (Option.none : Option Jvm.ClassFile.FieldType)).before args0 about1 = true := code_word (m := ⟨7, 1⟩) (meth := k7m1) (c := k7c1) (by decide +kernel) rfl rfl rfl (by decide +kernel)
set_option maxRecDepth 65536 in
theorem w_c3 : (Jvm.Cond.code ({ cls := "java/lang/String", name := "<init>", desc := "([CIILjava/lang/Void;)V" } : Jvm.MethodName) jdk_42_method_149_code (6 : Nat) (Option.none : Option Jvm.ClassFile.FieldType)).before args0 about1 = true := code_word (m := ⟨7, 5⟩) (meth := k7m5) (c := k7c5) (by decide +kernel) rfl rfl rfl (by decide +kernel)
set_option maxRecDepth 65536 in
theorem w_c4 : (Jvm.Cond.code ({ cls := "java/lang/Object", name := "<init>", desc := "()V" } : Jvm.MethodName) object_method_1_code (1 : Nat) (Option.none : Option Jvm.ClassFile.FieldType)).before args0 about1 = true := code_word (m := ⟨0, 0⟩) (meth := k0m0) (c := k0c0) (by decide +kernel) rfl rfl rfl (by decide +kernel)
set_option maxRecDepth 65536 in
theorem w_c5 : (Jvm.Cond.code ({ cls := "com/example/payment_retry_queue/paymentretryqueue/AttemptAnswer", name := "succeeded", desc := "(Ljava/lang/String;)Lcom/example/payment_retry_queue/paymentretryqueue/AttemptAnswer;" } : Jvm.MethodName) prog_1_method_3_code (1 : Nat) (Option.some (Jvm.ClassFile.FieldType.object "com/example/payment_retry_queue/paymentretryqueue/AttemptAnswer"))).before args0 about1 = true := code_word (m := ⟨8, 1⟩) (meth := k8m1) (c := k8c1) (by decide +kernel) rfl rfl rfl (by decide +kernel)
set_option maxRecDepth 65536 in
theorem w_c6 : (Jvm.Cond.code ({ cls := "java/util/Objects", name := "requireNonNull", desc := "(Ljava/lang/Object;Ljava/lang/String;)Ljava/lang/Object;" } : Jvm.MethodName) jdk_31_method_11_code (2 : Nat) (Option.some (Jvm.ClassFile.FieldType.object "java/lang/Object"))).before args0 about1 = true := code_word (m := ⟨11, 1⟩) (meth := k11m1) (c := k11c1) (by decide +kernel) rfl rfl rfl (by decide +kernel)
set_option maxRecDepth 65536 in
theorem w_c7 : (Jvm.Cond.code ({ cls := "com/example/payment_retry_queue/paymentretryqueue/AttemptAnswer", name := "<init>", desc := "(Lcom/example/payment_retry_queue/paymentretryqueue/AttemptAnswer$Kind;Ljava/lang/String;Ljava/time/Duration;)V" } : Jvm.MethodName) prog_1_method_2_code (4 : Nat) (Option.none : Option Jvm.ClassFile.FieldType)).before args0 about1 = true := code_word (m := ⟨8, 0⟩) (meth := k8m0) (c := k8c0) (by decide +kernel) rfl rfl rfl (by decide +kernel)
set_option maxRecDepth 65536 in
theorem w_c8 : (Jvm.Cond.code ({ cls := "com/example/payment_retry_queue/paymentretryqueue/AttemptAnswer", name := "kind", desc := "()Lcom/example/payment_retry_queue/paymentretryqueue/AttemptAnswer$Kind;" } : Jvm.MethodName) prog_1_method_10_code (1 : Nat) (Option.some (Jvm.ClassFile.FieldType.object "com/example/payment_retry_queue/paymentretryqueue/AttemptAnswer$Kind"))).before args0 about1 = true := code_word (m := ⟨8, 2⟩) (meth := k8m2) (c := k8c2) (by decide +kernel) rfl rfl rfl (by decide +kernel)
set_option maxRecDepth 65536 in
theorem w_c9 : (Jvm.Cond.code ({ cls := "com/example/payment_retry_queue/paymentretryqueue/AttemptAnswer", name := "reference", desc := "()Ljava/util/Optional;" } : Jvm.MethodName) prog_1_method_11_code (1 : Nat) (Option.some (Jvm.ClassFile.FieldType.object "java/util/Optional"))).before args0 about1 = true := code_word (m := ⟨8, 3⟩) (meth := k8m3) (c := k8c3) (by decide +kernel) rfl rfl rfl (by decide +kernel)
set_option maxRecDepth 65536 in
theorem w_c10 : (Jvm.Cond.code ({ cls := "java/util/Optional", name := "ofNullable", desc := "(Ljava/lang/Object;)Ljava/util/Optional;" } : Jvm.MethodName) jdk_32_method_4_code (1 : Nat) (Option.some (Jvm.ClassFile.FieldType.object "java/util/Optional"))).before args0 about1 = true := code_word (m := ⟨12, 1⟩) (meth := k12m1) (c := k12c1) (by decide +kernel) rfl rfl rfl (by decide +kernel)
set_option maxRecDepth 65536 in
theorem w_c11 : (Jvm.Cond.code ({ cls := "java/util/Optional", name := "<init>", desc := "(Ljava/lang/Object;)V" } : Jvm.MethodName) jdk_32_method_2_code (2 : Nat) (Option.none : Option Jvm.ClassFile.FieldType)).before args0 about1 = true := code_word (m := ⟨12, 0⟩) (meth := k12m0) (c := k12c0) (by decide +kernel) rfl rfl rfl (by decide +kernel)
set_option maxRecDepth 65536 in
theorem w_c12 : (Jvm.Cond.code ({ cls := "java/util/Optional", name := "isPresent", desc := "()Z" } : Jvm.MethodName) jdk_32_method_6_code (1 : Nat) (Option.some Jvm.ClassFile.FieldType.boolean)).before args0 about1 = true := code_word (m := ⟨12, 3⟩) (meth := k12m3) (c := k12c3) (by decide +kernel) rfl rfl rfl (by decide +kernel)
set_option maxRecDepth 65536 in
theorem w_c13 : (Jvm.Cond.code ({ cls := "java/util/Optional", name := "get", desc := "()Ljava/lang/Object;" } : Jvm.MethodName) jdk_32_method_5_code (1 : Nat) (Option.some (Jvm.ClassFile.FieldType.object "java/lang/Object"))).before args0 about1 = true := code_word (m := ⟨12, 2⟩) (meth := k12m2) (c := k12c2) (by decide +kernel) rfl rfl rfl (by decide +kernel)
set_option maxRecDepth 65536 in
theorem w_c14 : (Jvm.Cond.code ({ cls := "java/lang/String", name := "equals", desc := "(Ljava/lang/Object;)Z" } : Jvm.MethodName) jdk_42_method_66_code (3 : Nat) (Option.some Jvm.ClassFile.FieldType.boolean)).before args0 about1 = true := code_word (m := ⟨7, 4⟩) (meth := k7m4) (c := k7c4) (by decide +kernel) rfl rfl rfl (by decide +kernel)
set_option maxRecDepth 65536 in
theorem w_c15 : (Jvm.Cond.code ({ cls := "java/lang/String", name := "length", desc := "()I" } : Jvm.MethodName) jdk_42_method_54_code (1 : Nat) (Option.some Jvm.ClassFile.FieldType.int)).before args0 about1 = true := code_word (m := ⟨7, 2⟩) (meth := k7m2) (c := k7c2) (by decide +kernel) rfl rfl rfl (by decide +kernel)
set_option maxRecDepth 65536 in
theorem w_c16 : (Jvm.Cond.code ({ cls := "java/lang/String", name := "coder", desc := "()B" } : Jvm.MethodName) jdk_42_method_152_code (1 : Nat) (Option.some Jvm.ClassFile.FieldType.byte)).before args0 about1 = true := code_word (m := ⟨7, 6⟩) (meth := k7m6) (c := k7c6) (by decide +kernel) rfl rfl rfl (by decide +kernel)
set_option maxRecDepth 65536 in
theorem w_c17 : (Jvm.Cond.code ({ cls := "com/example/payment_retry_queue/paymentretryqueue/AttemptAnswer", name := "retryAfter", desc := "()Ljava/util/Optional;" } : Jvm.MethodName) prog_1_method_12_code (1 : Nat) (Option.some (Jvm.ClassFile.FieldType.object "java/util/Optional"))).before args0 about1 = true := code_word (m := ⟨8, 4⟩) (meth := k8m4) (c := k8c4) (by decide +kernel) rfl rfl rfl (by decide +kernel)
set_option maxRecDepth 65536 in
theorem w_c18 : (Jvm.Cond.code ({ cls := "java/lang/StringUTF16", name := "compress", desc := "([CII)[B" } : Jvm.MethodName) jdk_52_method_16_code (6 : Nat) (Option.some (Jvm.ClassFile.FieldType.array Jvm.ClassFile.FieldType.byte))).before args0 about1 = true := code_word (m := ⟨13, 8⟩) (meth := k13m8) (c := k13c8) (by decide +kernel) rfl rfl rfl (by decide +kernel)
set_option maxRecDepth 65536 in
theorem w_c19 : (Jvm.Cond.code ({ cls := "java/lang/StringUTF16", name := "compress", desc := "([CI[BII)I" } : Jvm.MethodName) jdk_52_method_21_code (7 : Nat) (Option.some Jvm.ClassFile.FieldType.int)).before args0 about1 = true := code_word (m := ⟨13, 9⟩) (meth := k13m9) (c := k13c9) (by decide +kernel) rfl rfl rfl (by decide +kernel)
set_option maxRecDepth 65536 in
theorem w_c20 : (Jvm.Cond.code ({ cls := "java/lang/StringUTF16", name := "coderFromArrayLen", desc := "([BI)B" } : Jvm.MethodName) jdk_52_method_15_code (2 : Nat) (Option.some Jvm.ClassFile.FieldType.byte)).before args0 about1 = true := code_word (m := ⟨13, 7⟩) (meth := k13m7) (c := k13c7) (by decide +kernel) rfl rfl rfl (by decide +kernel)
set_option maxRecDepth 65536 in
theorem w_c21 : (Jvm.Cond.code ({ cls := "java/lang/String", name := "charAt", desc := "(I)C" } : Jvm.MethodName) jdk_42_method_56_code (2 : Nat) (Option.some Jvm.ClassFile.FieldType.char)).before args0 about1 = true := code_word (m := ⟨7, 3⟩) (meth := k7m3) (c := k7c3) (by decide +kernel) rfl rfl rfl (by decide +kernel)
set_option maxRecDepth 65536 in
theorem w_c22 : (Jvm.Cond.code ({ cls := "java/lang/String", name := "isLatin1", desc := "()Z" } : Jvm.MethodName) jdk_42_method_154_code (1 : Nat) (Option.some Jvm.ClassFile.FieldType.boolean)).before args0 about1 = true := code_word (m := ⟨7, 7⟩) (meth := k7m7) (c := k7c7) (by decide +kernel) rfl rfl rfl (by decide +kernel)
set_option maxRecDepth 65536 in
theorem w_c23 : (Jvm.Cond.code ({ cls := "java/lang/StringLatin1", name := "charAt", desc := "([BI)C" } : Jvm.MethodName) jdk_43_method_2_code (2 : Nat) (Option.some Jvm.ClassFile.FieldType.char)).before args0 about1 = true := code_word (m := ⟨14, 1⟩) (meth := k14m1) (c := k14c1) (by decide +kernel) rfl rfl rfl (by decide +kernel)
set_option maxRecDepth 65536 in
theorem w_c24 : (Jvm.Cond.code ({ cls := "java/lang/String", name := "checkIndex", desc := "(II)V" } : Jvm.MethodName) jdk_42_method_155_code (2 : Nat) (Option.none : Option Jvm.ClassFile.FieldType)).before args0 about1 = true := code_word (m := ⟨7, 8⟩) (meth := k7m8) (c := k7c8) (by decide +kernel) rfl rfl rfl (by decide +kernel)
set_option maxRecDepth 65536 in
theorem w_c25 : (Jvm.Cond.code ({ cls := "jdk/internal/util/Preconditions", name := "checkIndex", desc := "(IILjava/util/function/BiFunction;)I" } : Jvm.MethodName) jdk_41_method_11_code (3 : Nat) (Option.some Jvm.ClassFile.FieldType.int)).before args0 about1 = true := code_word (m := ⟨15, 1⟩) (meth := k15m1) (c := k15c1) (by decide +kernel) rfl rfl rfl (by decide +kernel)
set_option maxRecDepth 65536 in
theorem w_c26 : (Jvm.Cond.code ({ cls := "java/lang/StringUTF16", name := "toBytes", desc := "([CII)[B" } : Jvm.MethodName) jdk_52_method_14_code (5 : Nat) (Option.some (Jvm.ClassFile.FieldType.array Jvm.ClassFile.FieldType.byte))).before args0 about1 = true := code_word (m := ⟨13, 6⟩) (meth := k13m6) (c := k13c6) (by decide +kernel) rfl rfl rfl (by decide +kernel)
set_option maxRecDepth 65536 in
theorem w_c27 : (Jvm.Cond.code ({ cls := "java/lang/StringUTF16", name := "newBytesFor", desc := "(I)[B" } : Jvm.MethodName) jdk_52_method_2_code (1 : Nat) (Option.some (Jvm.ClassFile.FieldType.array Jvm.ClassFile.FieldType.byte))).before args0 about1 = true := code_word (m := ⟨13, 1⟩) (meth := k13m1) (c := k13c1) (by decide +kernel) rfl rfl rfl (by decide +kernel)
set_option maxRecDepth 65536 in
theorem w_c28 : (Jvm.Cond.code ({ cls := "java/lang/StringUTF16", name := "newBytesLength", desc := "(I)I" } : Jvm.MethodName) jdk_52_method_3_code (1 : Nat) (Option.some Jvm.ClassFile.FieldType.int)).before args0 about1 = true := code_word (m := ⟨13, 2⟩) (meth := k13m2) (c := k13c2) (by decide +kernel) rfl rfl rfl (by decide +kernel)
set_option maxRecDepth 65536 in
theorem w_c29 : (Jvm.Cond.code ({ cls := "java/lang/StringUTF16", name := "putChar", desc := "([BII)V" } : Jvm.MethodName) jdk_52_method_4_code (3 : Nat) (Option.none : Option Jvm.ClassFile.FieldType)).before args0 about1 = true := code_word (m := ⟨13, 3⟩) (meth := k13m3) (c := k13c3) (by decide +kernel) rfl rfl rfl (by decide +kernel)
set_option maxRecDepth 65536 in
theorem w_c30 : (Jvm.Cond.code ({ cls := "java/lang/StringUTF16", name := "getChar", desc := "([BI)C" } : Jvm.MethodName) jdk_52_method_5_code (2 : Nat) (Option.some Jvm.ClassFile.FieldType.char)).before args0 about1 = true := code_word (m := ⟨13, 4⟩) (meth := k13m4) (c := k13c4) (by decide +kernel) rfl rfl rfl (by decide +kernel)
set_option maxRecDepth 65536 in
theorem w_c31 : (Jvm.Cond.code ({ cls := "java/lang/StringUTF16", name := "charAt", desc := "([BI)C" } : Jvm.MethodName) jdk_52_method_83_code (2 : Nat) (Option.some Jvm.ClassFile.FieldType.char)).before args0 about1 = true := code_word (m := ⟨13, 10⟩) (meth := k13m10) (c := k13c10) (by decide +kernel) rfl rfl rfl (by decide +kernel)
set_option maxRecDepth 65536 in
theorem w_c32 : (Jvm.Cond.code ({ cls := "java/lang/StringUTF16", name := "checkIndex", desc := "(I[B)V" } : Jvm.MethodName) jdk_52_method_91_code (2 : Nat) (Option.none : Option Jvm.ClassFile.FieldType)).before args0 about1 = true := code_word (m := ⟨13, 11⟩) (meth := k13m11) (c := k13c11) (by decide +kernel) rfl rfl rfl (by decide +kernel)
set_option maxRecDepth 65536 in
theorem w_c33 : (Jvm.Cond.code ({ cls := "java/lang/StringUTF16", name := "length", desc := "([B)I" } : Jvm.MethodName) jdk_52_method_6_code (1 : Nat) (Option.some Jvm.ClassFile.FieldType.int)).before args0 about1 = true := code_word (m := ⟨13, 5⟩) (meth := k13m5) (c := k13c5) (by decide +kernel) rfl rfl rfl (by decide +kernel)
def codes1 : List Jvm.Cond := [Jvm.Cond.code x code maxLocals ret, Jvm.Cond.code ({ cls := "com/example/payment_retry_queue/paymentretryqueue/AttemptAnswerSucceededPinLaw", name := "make", desc := "(ICCC)Ljava/lang/String;" } : Jvm.MethodName) method_2_code (5 : Nat) (Option.some (Jvm.ClassFile.FieldType.object "java/lang/String")), Jvm.Cond.code ({ cls := "java/lang/String", name := "<init>", desc := "([C)V" } : Jvm.MethodName) jdk_42_method_3_code (2 : Nat) (Option.none : Option Jvm.ClassFile.FieldType), Jvm.Cond.code ({ cls := "java/lang/String", name := "<init>", desc := "([CIILjava/lang/Void;)V" } : Jvm.MethodName) jdk_42_method_149_code (6 : Nat) (Option.none : Option Jvm.ClassFile.FieldType), Jvm.Cond.code ({ cls := "java/lang/Object", name := "<init>", desc := "()V" } : Jvm.MethodName) object_method_1_code (1 : Nat) (Option.none : Option Jvm.ClassFile.FieldType), Jvm.Cond.code ({ cls := "com/example/payment_retry_queue/paymentretryqueue/AttemptAnswer", name := "succeeded", desc := "(Ljava/lang/String;)Lcom/example/payment_retry_queue/paymentretryqueue/AttemptAnswer;" } : Jvm.MethodName) prog_1_method_3_code (1 : Nat) (Option.some (Jvm.ClassFile.FieldType.object "com/example/payment_retry_queue/paymentretryqueue/AttemptAnswer")), Jvm.Cond.code ({ cls := "java/util/Objects", name := "requireNonNull", desc := "(Ljava/lang/Object;Ljava/lang/String;)Ljava/lang/Object;" } : Jvm.MethodName) jdk_31_method_11_code (2 : Nat) (Option.some (Jvm.ClassFile.FieldType.object "java/lang/Object")), Jvm.Cond.code ({ cls := "com/example/payment_retry_queue/paymentretryqueue/AttemptAnswer", name := "<init>", desc := "(Lcom/example/payment_retry_queue/paymentretryqueue/AttemptAnswer$Kind;Ljava/lang/String;Ljava/time/Duration;)V" } : Jvm.MethodName) prog_1_method_2_code (4 : Nat) (Option.none : Option Jvm.ClassFile.FieldType), Jvm.Cond.code ({ cls := "com/example/payment_retry_queue/paymentretryqueue/AttemptAnswer", name := "kind", desc := "()Lcom/example/payment_retry_queue/paymentretryqueue/AttemptAnswer$Kind;" } : Jvm.MethodName) prog_1_method_10_code (1 : Nat) (Option.some (Jvm.ClassFile.FieldType.object "com/example/payment_retry_queue/paymentretryqueue/AttemptAnswer$Kind")), Jvm.Cond.code ({ cls := "com/example/payment_retry_queue/paymentretryqueue/AttemptAnswer", name := "reference", desc := "()Ljava/util/Optional;" } : Jvm.MethodName) prog_1_method_11_code (1 : Nat) (Option.some (Jvm.ClassFile.FieldType.object "java/util/Optional")), Jvm.Cond.code ({ cls := "java/util/Optional", name := "ofNullable", desc := "(Ljava/lang/Object;)Ljava/util/Optional;" } : Jvm.MethodName) jdk_32_method_4_code (1 : Nat) (Option.some (Jvm.ClassFile.FieldType.object "java/util/Optional")), Jvm.Cond.code ({ cls := "java/util/Optional", name := "<init>", desc := "(Ljava/lang/Object;)V" } : Jvm.MethodName) jdk_32_method_2_code (2 : Nat) (Option.none : Option Jvm.ClassFile.FieldType), Jvm.Cond.code ({ cls := "java/util/Optional", name := "isPresent", desc := "()Z" } : Jvm.MethodName) jdk_32_method_6_code (1 : Nat) (Option.some Jvm.ClassFile.FieldType.boolean), Jvm.Cond.code ({ cls := "java/util/Optional", name := "get", desc := "()Ljava/lang/Object;" } : Jvm.MethodName) jdk_32_method_5_code (1 : Nat) (Option.some (Jvm.ClassFile.FieldType.object "java/lang/Object")), Jvm.Cond.code ({ cls := "java/lang/String", name := "equals", desc := "(Ljava/lang/Object;)Z" } : Jvm.MethodName) jdk_42_method_66_code (3 : Nat) (Option.some Jvm.ClassFile.FieldType.boolean), Jvm.Cond.code ({ cls := "java/lang/String", name := "length", desc := "()I" } : Jvm.MethodName) jdk_42_method_54_code (1 : Nat) (Option.some Jvm.ClassFile.FieldType.int), Jvm.Cond.code ({ cls := "java/lang/String", name := "coder", desc := "()B" } : Jvm.MethodName) jdk_42_method_152_code (1 : Nat) (Option.some Jvm.ClassFile.FieldType.byte), Jvm.Cond.code ({ cls := "com/example/payment_retry_queue/paymentretryqueue/AttemptAnswer", name := "retryAfter", desc := "()Ljava/util/Optional;" } : Jvm.MethodName) prog_1_method_12_code (1 : Nat) (Option.some (Jvm.ClassFile.FieldType.object "java/util/Optional")), Jvm.Cond.code ({ cls := "java/lang/StringUTF16", name := "compress", desc := "([CII)[B" } : Jvm.MethodName) jdk_52_method_16_code (6 : Nat) (Option.some (Jvm.ClassFile.FieldType.array Jvm.ClassFile.FieldType.byte)), Jvm.Cond.code ({ cls := "java/lang/StringUTF16", name := "compress", desc := "([CI[BII)I" } : Jvm.MethodName) jdk_52_method_21_code (7 : Nat) (Option.some Jvm.ClassFile.FieldType.int), Jvm.Cond.code ({ cls := "java/lang/StringUTF16", name := "coderFromArrayLen", desc := "([BI)B" } : Jvm.MethodName) jdk_52_method_15_code (2 : Nat) (Option.some Jvm.ClassFile.FieldType.byte), Jvm.Cond.code ({ cls := "java/lang/String", name := "charAt", desc := "(I)C" } : Jvm.MethodName) jdk_42_method_56_code (2 : Nat) (Option.some Jvm.ClassFile.FieldType.char), Jvm.Cond.code ({ cls := "java/lang/String", name := "isLatin1", desc := "()Z" } : Jvm.MethodName) jdk_42_method_154_code (1 : Nat) (Option.some Jvm.ClassFile.FieldType.boolean), Jvm.Cond.code ({ cls := "java/lang/StringLatin1", name := "charAt", desc := "([BI)C" } : Jvm.MethodName) jdk_43_method_2_code (2 : Nat) (Option.some Jvm.ClassFile.FieldType.char), Jvm.Cond.code ({ cls := "java/lang/String", name := "checkIndex", desc := "(II)V" } : Jvm.MethodName) jdk_42_method_155_code (2 : Nat) (Option.none : Option Jvm.ClassFile.FieldType), Jvm.Cond.code ({ cls := "jdk/internal/util/Preconditions", name := "checkIndex", desc := "(IILjava/util/function/BiFunction;)I" } : Jvm.MethodName) jdk_41_method_11_code (3 : Nat) (Option.some Jvm.ClassFile.FieldType.int), Jvm.Cond.code ({ cls := "java/lang/StringUTF16", name := "toBytes", desc := "([CII)[B" } : Jvm.MethodName) jdk_52_method_14_code (5 : Nat) (Option.some (Jvm.ClassFile.FieldType.array Jvm.ClassFile.FieldType.byte)), Jvm.Cond.code ({ cls := "java/lang/StringUTF16", name := "newBytesFor", desc := "(I)[B" } : Jvm.MethodName) jdk_52_method_2_code (1 : Nat) (Option.some (Jvm.ClassFile.FieldType.array Jvm.ClassFile.FieldType.byte)), Jvm.Cond.code ({ cls := "java/lang/StringUTF16", name := "newBytesLength", desc := "(I)I" } : Jvm.MethodName) jdk_52_method_3_code (1 : Nat) (Option.some Jvm.ClassFile.FieldType.int), Jvm.Cond.code ({ cls := "java/lang/StringUTF16", name := "putChar", desc := "([BII)V" } : Jvm.MethodName) jdk_52_method_4_code (3 : Nat) (Option.none : Option Jvm.ClassFile.FieldType), Jvm.Cond.code ({ cls := "java/lang/StringUTF16", name := "getChar", desc := "([BI)C" } : Jvm.MethodName) jdk_52_method_5_code (2 : Nat) (Option.some Jvm.ClassFile.FieldType.char), Jvm.Cond.code ({ cls := "java/lang/StringUTF16", name := "charAt", desc := "([BI)C" } : Jvm.MethodName) jdk_52_method_83_code (2 : Nat) (Option.some Jvm.ClassFile.FieldType.char), Jvm.Cond.code ({ cls := "java/lang/StringUTF16", name := "checkIndex", desc := "(I[B)V" } : Jvm.MethodName) jdk_52_method_91_code (2 : Nat) (Option.none : Option Jvm.ClassFile.FieldType), Jvm.Cond.code ({ cls := "java/lang/StringUTF16", name := "length", desc := "([B)I" } : Jvm.MethodName) jdk_52_method_6_code (1 : Nat) (Option.some Jvm.ClassFile.FieldType.int)]
set_option maxRecDepth 65536 in
theorem codes_eq : words1.filter isCode = codes1 := rfl
theorem w_codes : ∀ c ∈ words1.filter isCode, c.before args0 about1 = true := by
  rw [codes_eq]
  intro c hc
  simp only [codes1, List.mem_cons, List.not_mem_nil, or_false] at hc
  rcases hc with rfl | rfl | rfl | rfl | rfl | rfl | rfl | rfl | rfl | rfl | rfl | rfl | rfl | rfl | rfl | rfl | rfl | rfl | rfl | rfl | rfl | rfl | rfl | rfl | rfl | rfl | rfl | rfl | rfl | rfl | rfl | rfl | rfl | rfl
  · exact w_c0
  · exact w_c1
  · exact w_c2
  · exact w_c3
  · exact w_c4
  · exact w_c5
  · exact w_c6
  · exact w_c7
  · exact w_c8
  · exact w_c9
  · exact w_c10
  · exact w_c11
  · exact w_c12
  · exact w_c13
  · exact w_c14
  · exact w_c15
  · exact w_c16
  · exact w_c17
  · exact w_c18
  · exact w_c19
  · exact w_c20
  · exact w_c21
  · exact w_c22
  · exact w_c23
  · exact w_c24
  · exact w_c25
  · exact w_c26
  · exact w_c27
  · exact w_c28
  · exact w_c29
  · exact w_c30
  · exact w_c31
  · exact w_c32
  · exact w_c33
set_option maxRecDepth 65536 in
theorem w_t1 : (words1.take 24).all (fun c => isCode c || c.before args0 about1) = true := by decide +kernel
set_option maxRecDepth 65536 in
theorem w_t2 : ((words1.drop 24).take 24).all (fun c => isCode c || c.before args0 about1) = true := by decide +kernel
set_option maxRecDepth 65536 in
theorem w_t3 : (((words1.drop 24).drop 24).take 24).all (fun c => isCode c || c.before args0 about1) = true := by decide +kernel
set_option maxRecDepth 65536 in
theorem w_t4 : ((((words1.drop 24).drop 24).drop 24).take 24).all (fun c => isCode c || c.before args0 about1) = true := by decide +kernel
set_option maxRecDepth 65536 in
theorem w_t5 : (((((words1.drop 24).drop 24).drop 24).drop 24).take 24).all (fun c => isCode c || c.before args0 about1) = true := by decide +kernel
set_option maxRecDepth 65536 in
theorem w_t6 : ((((((words1.drop 24).drop 24).drop 24).drop 24).drop 24).take 24).all (fun c => isCode c || c.before args0 about1) = true := by decide +kernel
set_option maxRecDepth 65536 in
theorem w_t7 : (((((((words1.drop 24).drop 24).drop 24).drop 24).drop 24).drop 24).take 24).all (fun c => isCode c || c.before args0 about1) = true := by decide +kernel
set_option maxRecDepth 65536 in
theorem w_t8 : (((((((words1.drop 24).drop 24).drop 24).drop 24).drop 24).drop 24).drop 24).all (fun c => isCode c || c.before args0 about1) = true := by decide +kernel
theorem w_tables : (allAtoms (Jvm.Cond.code x code maxLocals ret :: tables_1)).before args0 about1 = true := by
  rw [allAtoms_all]
  show words1.all (fun c => c.before args0 about1) = true
  refine all_split ?_ w_codes
  rw [← List.take_append_drop 24 words1, List.all_append, w_t1, ← List.take_append_drop 24 (words1.drop 24), List.all_append, w_t2, ← List.take_append_drop 24 ((words1.drop 24).drop 24), List.all_append, w_t3, ← List.take_append_drop 24 (((words1.drop 24).drop 24).drop 24), List.all_append, w_t4, ← List.take_append_drop 24 ((((words1.drop 24).drop 24).drop 24).drop 24), List.all_append, w_t5, ← List.take_append_drop 24 (((((words1.drop 24).drop 24).drop 24).drop 24).drop 24), List.all_append, w_t6, ← List.take_append_drop 24 ((((((words1.drop 24).drop 24).drop 24).drop 24).drop 24).drop 24), List.all_append, w_t7, w_t8]
  rfl
set_option maxRecDepth 65536 in
theorem w_rest : rest_1_c.before args0 about1 = true := by decide +kernel
set_option maxRecDepth 65536 in
theorem w_case : (Jvm.Cond.and given_1 narrow_1).before args0 about1 = true := by decide +kernel
set_option maxRecDepth 65536 in
theorem w_consts : constsHeld consts_1 about1 := Jvm.Lit.constsHeldB_iff.mp (by decide +kernel)
theorem w_applies : (headSpec (Jvm.Cond.code x code maxLocals ret :: tables_1) room_1).applies x e0.platform about1 = true :=
  (Spec.applies_iff w_frames).mpr ⟨w_running, w_runnable, w_alone, w_named, w_hears, w_ripe, w_room, w_tables⟩
theorem atStart : AtStart classFile x code maxLocals ret World_1 tables_1 room_1 Calls_1 rest_1 Pre_1 launch0 p0 e0 about1 theMethod args0 below0 :=
  ⟨lists_1, trivial, launch0.admits_env _ _ _, launch0.least_env, fairChoices_fair.cas, fairChoices_fair.clock, w_frames, w_args, w_heap, w_applies, ⟨w_consts, trivial⟩, w_rest, w_case⟩
end start1
theorem witness_1 : WitnessClaimed_1 := ⟨start1.p0, start1.e0, start1.about1, start1.theMethod, start1.args0, start1.below0, start1.atStart⟩
end Jvm.Pilot.@@N@@
