import JvmDerived
import JvmDerived.Pilot.@@N@@Statement
import JvmDerived.Pilot.@@N@@Code
set_option linter.unusedVariables false
set_option linter.unusedSimpArgs false
namespace Jvm.RoadKit
open Sem ClassFile Op Lib Jvm.Stand Jvm.Free Jvm.LawKit
section OwnGo
variable {p : Program} {l : Launch} {e : Env} {R : Room} {s : State} {m : MethodId} {args : Array Value} {below : List Frame} {meth : Method} {c : Code} {T T' : State} {locs : List Loc} {cells slots : Nat} {tb : Tables} {P : State → Outcome → Prop} {g g' : JFrame} {Z : State} {a0 : Array Value} {h h' : Heap}
/-- from here the run goes on to an end that P says -/
def Go (tb : Tables) (e : Env) (below : List Frame) (P : State → Outcome → Prop) (T : State) (g : JFrame) : Prop :=
  ∃ u o, Steps tb e below (T.setTop g) u ∧ u.status = .running ∧ Ended u below o ∧ P u o
theorem Go.st (st : ∀ target, Steps tb e below (T'.setTop g') target → Steps tb e below (T.setTop g) target) (k : Go tb e below P T' g') : Go tb e below P T g := by
  obtain ⟨u, o, h1, h2⟩ := k
  exact ⟨u, o, st u h1, h2⟩
theorem Go.tr (st : Steps tb e below (T.setTop g) (T'.setTop g')) (k : Go tb e below P T' g') : Go tb e below P T g := Go.st (fun _ h => st.trans h) k
theorem Go.cast (q : g = g') (k : Go tb e below P T g') : Go tb e below P T g := q ▸ k
/-- the end of a body that interns nothing -/
def FinP (s : State) (Q : Option Value → Heap → List Loc → Prop) (K N : Nat) (u : State) (o : Outcome) : Prop := ∃ v L, o = .returned v ∧ Q v u.heap L ∧ FrameEnd s o u L K N
theorem Go.retN {Q : Option Value → Heap → List Loc → Prop} {K N : Nat} (X : Stand p l e R s m args below meth c T locs cells slots) (hx : p.tables.exec = Jvm.exec) (hlk : meth.locks = false) {pc : Nat} {Ls : Array Slot} {z : Int32} {t : FieldType} {rest : List Value} (hret : meth.sig.returnType = some t)
    (hn : narrow t (.int z) = .int z) (ht : t = .int ∨ t = .boolean ∨ t = .byte ∨ t = .char ∨ t = .short) (hd : decode c.code pc = .ok (.ireturn, 1)) (hK : cells ≤ K) (hN : slots ≤ N) (eT : T.heap = h) (hQ : Q (some (.int z)) h locs) : Go p.tables e below (FinP s Q K N) T (mkF m pc Ls (.int z :: rest)) := by
  obtain ⟨fs, hr, hrun, hended, hW, hsame⟩ := X.leave (v := some (.int z)) (fun h => by rw [hret] at h; cases h) hlk
  exact ⟨_, _, retOut X hx hret hn (Or.inl ⟨rfl, ht, z, rfl⟩) hd hr, hrun, hended, _, _, rfl, (by rw [show (T.setFrames fs).heap = h from eT]; exact hQ), ⟨_, rfl⟩, hW, hsame.mono hK hN⟩
theorem Go.retL {Q : Option Value → Heap → List Loc → Prop} {K N : Nat} (X : Stand p l e R s m args below meth c T locs cells slots) (hx : p.tables.exec = Jvm.exec) (hlk : meth.locks = false) {pc : Nat} {Ls : Array Slot} {z : Int64} {rest : List Value} (hret : meth.sig.returnType = some .long)
    (hd : decode c.code pc = .ok (.lreturn, 1)) (hK : cells ≤ K) (hN : slots ≤ N) (eT : T.heap = h) (hQ : Q (some (.long z)) h locs) : Go p.tables e below (FinP s Q K N) T (mkF m pc Ls (.long z :: rest)) := by
  obtain ⟨fs, hr, hrun, hended, hW, hsame⟩ := X.leave (v := some (.long z)) (fun h => by rw [hret] at h; cases h) hlk
  exact ⟨_, _, retOut X hx hret rfl (Or.inr (Or.inl ⟨rfl, rfl, z, rfl⟩)) hd hr, hrun, hended, _, _, rfl, (by rw [show (T.setFrames fs).heap = h from eT]; exact hQ), ⟨_, rfl⟩, hW, hsame.mono hK hN⟩
theorem narrow_ref {t : FieldType} {w : Value} (ht : t.isReference = true) : narrow t w = w := by cases t <;> first | rfl | (cases w <;> rfl) | (simp [FieldType.isReference] at ht)
theorem Go.retA {Q : Option Value → Heap → List Loc → Prop} {K N : Nat} (X : Stand p l e R s m args below meth c T locs cells slots) (hx : p.tables.exec = Jvm.exec) (hlk : meth.locks = false) {pc : Nat} {Ls : Array Slot} {w : Value} {t : FieldType} {rest : List Value} (hret : meth.sig.returnType = some t)
    (ht : t.isReference = true) (hw : w.isRef = true) (hd : decode c.code pc = .ok (.areturn, 1)) (hK : cells ≤ K) (hN : slots ≤ N) (eT : T.heap = h) (hQ : Q (some w) h locs) : Go p.tables e below (FinP s Q K N) T (mkF m pc Ls (w :: rest)) := by
  obtain ⟨fs, hr, hrun, hended, hW, hsame⟩ := X.leave (v := some w) (fun h => by rw [hret] at h; cases h) hlk
  exact ⟨_, _, retOut X hx hret (narrow_ref ht) (Or.inr (Or.inr (Or.inr (Or.inr ⟨rfl, ht, hw⟩)))) hd hr, hrun, hended, _, _, rfl, (by rw [show (T.setFrames fs).heap = h from eT]; exact hQ), ⟨_, rfl⟩, hW, hsame.mono hK hN⟩
theorem Go.retV {Q : Option Value → Heap → List Loc → Prop} {K N : Nat} (X : Stand p l e R s m args below meth c T locs cells slots) (hx : p.tables.exec = Jvm.exec) (hlk : meth.locks = false) {pc : Nat} {Ls : Array Slot} (hret : meth.sig.returnType = none)
    (hd : decode c.code pc = .ok (.return_, 1)) (hK : cells ≤ K) (hN : slots ≤ N) (eT : T.heap = h) (hQ : Q none h locs) : Go p.tables e below (FinP s Q K N) T (mkF m pc Ls []) := by
  obtain ⟨fs, hr, hrun, hended, hW, hsame⟩ := X.leave (v := none) (fun _ => rfl) hlk
  exact ⟨_, _, X.returnOut hx hret hd hr, hrun, hended, _, _, rfl, (by rw [show (T.setFrames fs).heap = h from eT]; exact hQ), ⟨_, rfl⟩, hW, hsame.mono hK hN⟩
/-- a body's contract: called with as' at the heap h0 it returns as Q says -/
def Con (l : Launch) (Z : State) (y : MethodName) (bytes : ByteArray) (maxL : Nat) (ret : Option FieldType) (ws : List Cond) (rm : Room) (as' : Array Value) (h0 : Heap) (Q : Option Value → Heap → List Loc → Prop) : Prop :=
  MetFree l y (head1 (Cond.code y bytes maxL ret :: ws) rm) (fun a U => a = as' ∧ Z.Warmed39 U.vm ∧ U.heap = h0) (fun _ _ _ _ _ => True) (fun _ U o U' => ∃ v L, o = .returned v ∧ Q v U'.heap L ∧ FrameEnd U o U' L rm.cells rm.slots)
theorem Con.enter {y : MethodName} {bytes : ByteArray} {maxL : Nat} {ret : Option FieldType} {ws : List Cond} {rm : Room} {as' : Array Value} {h0 : Heap} {Q : Option Value → Heap → List Loc → Prop} (hp : plainFor y = true)
    (H : ∀ (p : Program) (e : Env) (s : State) (m : MethodId) (below : List Frame) (meth : Method) (c : Code) (s₁ : State), Stand p l e rm s m as' below meth c s₁ [] 0 0 → p.tables.exec = Jvm.exec → Z.Warmed39 s.vm → c.code = bytes → c.maxLocals = maxL → meth.sig.returnType = ret → meth.locks = false → s.vm.findClass y.cls = some m.cls → meth.name = y.name → s₁.heap = h0 →
      Go p.tables e below (FinP s Q rm.cells rm.slots) s₁ (entryFrame m as' maxL)) : Con l Z y bytes maxL ret ws rm as' h0 Q := by
  refine MetFree.of_bodySF hp hisR ?_
  intro p e s m args below meth c s₁ Bd hml0 hP hK
  obtain ⟨rfl, hZ, hh⟩ := hP
  exact H p e s m below meth c s₁ (Stand.of_body Bd) Bd.exec hZ Bd.bytes hml0 Bd.returns Bd.notSynchronized (findClass_of_methodNamed Bd.named) (name_of_methodNamed Bd.named Bd.method).1 (by rw [← hh, Bd.state]; rfl)
theorem Con.mono {y : MethodName} {bytes : ByteArray} {maxL : Nat} {ret : Option FieldType} {ws : List Cond} {rm : Room} {as' : Array Value} {h0 : Heap} {Q Q' : Option Value → Heap → List Loc → Prop} (C : Con l Z y bytes maxL ret ws rm as' h0 Q) (H : ∀ v h L, Q v h L → Q' v h L) : Con l Z y bytes maxL ret ws rm as' h0 Q' := by
  intro p e ha hc hk s m args below hf happ hP hK
  obtain ⟨n, o, h1, h2, h3, v, L, rfl, hq, hr⟩ := C p e ha hc hk s m args below hf happ hP hK
  exact ⟨n, _, h1, h2, h3, v, L, rfl, H _ _ _ hq, hr⟩
variable {y z : MethodName} {bytes : ByteArray} {maxL : Nat} {ret : Option FieldType} {rm : Room} {as' : Array Value} {Q : Option Value → Heap → List Loc → Prop} {W len : Nat} {own C owner : String} {index : Nat} {argsL rest : List Value}
/-- behind a call -/
theorem Go.back {vs : Array Value} {vm1 : Vm → Pt} {n : Nat} (H : ∃ (v : Option Value) (vm₁ : Vm) (B : Pt), s.WarmedH vm₁ ∧ Stand p l e R s m args below meth c B.U B.locs B.cells B.slots ∧ (∃ L, Q v B.U.heap L ∧ B.locs = locs ++ L ∧ B.cells = cells + rm.cells ∧ B.slots = slots + rm.slots) ∧
      Steps p.tables e below (T.setTop g) (B.U.setTop { g with pc := g.pc + n, stack := v.toList ++ rest }))
    (k : ∀ (v : Option Value) (T' : State) (h' : Heap) (L : List Loc), Stand p l e R s m args below meth c T' (locs ++ L) (cells + rm.cells) (slots + rm.slots) → T'.heap = h' → Q v h' L → Go p.tables e below P T' { g with pc := g.pc + n, stack := v.toList ++ rest }) : Go p.tables e below P T g := by
  obtain ⟨v, _, ⟨U, L1, k1, n1⟩, -, X', ⟨L, hQ, e1, e2, e3⟩, st⟩ := H
  have e1' : L1 = locs ++ L := e1
  have e2' : k1 = cells + rm.cells := e2
  have e3' : n1 = slots + rm.slots := e3
  subst e1' e2' e3'
  exact Go.tr st (k v U _ L X' rfl hQ)
theorem Go.callSt (X : Stand p l e R s m args below meth c T locs cells slots) (hx : p.tables.exec = Jvm.exec) (hZ : Z.Warmed39 s.vm) (hown : s.vm.findClass own = some m.cls) (eT : T.heap = h)
    (w1 : (Cond.methodLink own index y).before a0 Z = true) (w2 : (Cond.static y).before a0 Z = true) (w3 : (Cond.initialized y.cls).before a0 Z = true) (w4 : (Cond.code y bytes maxL ret).before a0 Z = true) (hy : y.cls ≠ "java/lang/invoke/MethodHandle" ∧ y.cls ≠ "java/lang/invoke/VarHandle")
    (hM : Con l Z y bytes maxL ret [] rm as' h Q) (ha : argsL.toArray = as') (hlen : ∀ sig, parseMethodDescriptor y.desc = some sig → argsL.length = sig.parameters.length) (hg : g.method = m) (hsize : g.locals.size = c.maxLocals) (hst : g.stack = argsL.reverse ++ rest)
    (hW : 2 * g.monitorRoom + (rest.map fun v => v.category).sum ≤ W) (hf : rm.frames + 1 ≤ R.frames) (hl : W + (maxL + 11) + rm.locals ≤ R.locals) (hc : cells + rm.cells ≤ R.cells) (hs : slots + rm.slots ≤ R.slots) (hd : decode c.code g.pc = .ok (.invokestatic index, 3))
    (k : ∀ (v : Option Value) (T' : State) (h' : Heap) (L : List Loc), Stand p l e R s m args below meth c T' (locs ++ L) (cells + rm.cells) (slots + rm.slots) → T'.heap = h' → Q v h' L → Go p.tables e below P T' { g with pc := g.pc + 3, stack := v.toList ++ rest }) : Go p.tables e below P T g := by
  obtain ⟨v, vm₁, B, q1, q2, q3, q4⟩ := Jvm.LawKit.callS X hx (y := y) (bytes := bytes) (maxL := maxL) (ret := ret) hown (mvT hZ w1) (mvT hZ w2) (mvT hZ w3) (mvT hZ w4) hy (backOf (W := W) (a0 := a0) hM hZ w4 w3 hf hl) (g := g) hg hsize (argsL := argsL) (rest := rest) hlen hst hW hd (fun _ _ => ⟨ha, eT, hc, hs⟩)
  exact Go.back (vs := as') (vm1 := fun _ => ⟨T, [], 0, 0⟩) ⟨v, vm₁, B, q1, q2, q3, q4 _ (Steps.refl _)⟩ k
theorem Go.callSp (X : Stand p l e R s m args below meth c T locs cells slots) (hx : p.tables.exec = Jvm.exec) (hZ : Z.Warmed39 s.vm) (hown : s.vm.findClass own = some m.cls) (eT : T.heap = h) (hy1 : y.name = "<init>")
    (w1 : (Cond.methodLink own index y).before a0 Z = true) (w2 : (Cond.instanceMethod y).before a0 Z = true) (w3 : (Cond.initialized y.cls).before a0 Z = true) (w4 : (Cond.code y bytes maxL none).before a0 Z = true) (hy : y.cls ≠ "java/lang/invoke/MethodHandle" ∧ y.cls ≠ "java/lang/invoke/VarHandle")
    {a : Addr} (hM : Con l Z y bytes maxL none [] rm as' h Q) (ha : (Value.ref a :: argsL).toArray = as') (hlen : ∀ sig, parseMethodDescriptor y.desc = some sig → argsL.length = sig.parameters.length) (hg : g.method = m) (hsize : g.locals.size = c.maxLocals) (hst : g.stack = argsL.reverse ++ .ref a :: rest)
    (hW : 2 * g.monitorRoom + (rest.map fun v => v.category).sum ≤ W) (hf : rm.frames + 1 ≤ R.frames) (hl : W + (maxL + 11) + rm.locals ≤ R.locals) (hc : cells + rm.cells ≤ R.cells) (hs : slots + rm.slots ≤ R.slots) (hd : decode c.code g.pc = .ok (.invokespecial index, 3))
    (k : ∀ (v : Option Value) (T' : State) (h' : Heap) (L : List Loc), Stand p l e R s m args below meth c T' (locs ++ L) (cells + rm.cells) (slots + rm.slots) → T'.heap = h' → Q v h' L → Go p.tables e below P T' { g with pc := g.pc + 3, stack := v.toList ++ rest }) : Go p.tables e below P T g := by
  exact Go.back (vs := as') (vm1 := fun _ => ⟨T, [], 0, 0⟩) (X.specialBack hx (y := y) hy1 hown (mvT hZ w1) (mvT hZ w2) (mvT hZ w4) hy (backOf (W := W) (a0 := a0) hM hZ w4 w3 hf hl) (g := g) hg hsize (Steps.refl _) (a := a) (argsL := argsL) (rest := rest) hlen hst hW hd (fun _ _ => ⟨ha, eT, hc, hs⟩)) k
theorem Go.callV (X : Stand p l e R s m args below meth c T locs cells slots) (hx : p.tables.exec = Jvm.exec) (hZ : Z.Warmed39 s.vm) (hown : s.vm.findClass own = some m.cls) (eT : T.heap = h)
    (w1 : (Cond.methodLink own index y).before a0 Z = true) (w2 : (Cond.declares y).before a0 Z = true) (w5 : (Cond.selects C y z).before a0 Z = true) (w6 : (Cond.instanceMethod z).before a0 Z = true) (w3 : (Cond.initialized z.cls).before a0 Z = true) (w4 : (Cond.code z bytes maxL ret).before a0 Z = true)
    (hnf : NotFace s y) (hy : y.cls ≠ "java/lang/invoke/MethodHandle" ∧ y.cls ≠ "java/lang/invoke/VarHandle")
    {a : Addr} (E : Exa Z h a C) (hM : Con l Z z bytes maxL ret [] rm as' h Q) (ha : (Value.ref a :: argsL).toArray = as') (hlen : ∀ sig, parseMethodDescriptor y.desc = some sig → argsL.length = sig.parameters.length) (hg : g.method = m) (hsize : g.locals.size = c.maxLocals) (hst : g.stack = argsL.reverse ++ .ref a :: rest)
    (hW : 2 * g.monitorRoom + (rest.map fun v => v.category).sum ≤ W) (hf : rm.frames + 1 ≤ R.frames) (hl : W + (maxL + 11) + rm.locals ≤ R.locals) (hc : cells + rm.cells ≤ R.cells) (hs : slots + rm.slots ≤ R.slots) (hd : decode c.code g.pc = .ok (.invokevirtual index, 3))
    (k : ∀ (v : Option Value) (T' : State) (h' : Heap) (L : List Loc), Stand p l e R s m args below meth c T' (locs ++ L) (cells + rm.cells) (slots + rm.slots) → T'.heap = h' → Q v h' L → Go p.tables e below P T' { g with pc := g.pc + 3, stack := v.toList ++ rest }) : Go p.tables e below P T g := by
  obtain ⟨cq, kq, qa, qb, qc⟩ := isOf hZ eT E
  exact Go.back (vs := as') (vm1 := fun _ => ⟨T, [], 0, 0⟩) (X.virtualBack hx (y := y) (z := z) hown (mvT hZ w1) (mvT hZ w2) hnf (mvT hZ w5) (mvT hZ w6) hy (backOf (W := W) (a0 := a0) hM hZ w4 w3 hf hl) qa qc (g := g) hg hsize (Steps.refl _) (argsL := argsL) (rest := rest) hlen hst hW hd (fun _ _ => ⟨ha, eT, hc, hs⟩)) k
theorem Go.callUp (X : Stand p l e R s m args below meth c T locs cells slots) (hx : p.tables.exec = Jvm.exec) (hZ : Z.Warmed39 s.vm) (hown : s.vm.findClass own = some m.cls) (eT : T.heap = h)
    (w1 : (Cond.methodLink own index y).before a0 Z = true) (w2 : (Cond.sameMethod y.cls owner y.name y.desc).before a0 Z = true) (w7 : (Cond.declares ⟨owner, y.name, y.desc⟩).before a0 Z = true) (hy : owner ≠ "java/lang/invoke/MethodHandle" ∧ owner ≠ "java/lang/invoke/VarHandle")
    (w5 : (Cond.selects C y z).before a0 Z = true) (w6 : (Cond.instanceMethod z).before a0 Z = true) (w3 : (Cond.initialized z.cls).before a0 Z = true) (w4 : (Cond.code z bytes maxL ret).before a0 Z = true)
    {a : Addr} (E : Exa Z h a C) (hM : Con l Z z bytes maxL ret [] rm as' h Q) (ha : (Value.ref a :: argsL).toArray = as') (hlen : ∀ sig, parseMethodDescriptor y.desc = some sig → argsL.length = sig.parameters.length) (hg : g.method = m) (hsize : g.locals.size = c.maxLocals) (hst : g.stack = argsL.reverse ++ .ref a :: rest)
    (hW : 2 * g.monitorRoom + (rest.map fun v => v.category).sum ≤ W) (hf : rm.frames + 1 ≤ R.frames) (hl : W + (maxL + 11) + rm.locals ≤ R.locals) (hc : cells + rm.cells ≤ R.cells) (hs : slots + rm.slots ≤ R.slots) (hd : decode c.code g.pc = .ok (.invokevirtual index, 3))
    (k : ∀ (v : Option Value) (T' : State) (h' : Heap) (L : List Loc), Stand p l e R s m args below meth c T' (locs ++ L) (cells + rm.cells) (slots + rm.slots) → T'.heap = h' → Q v h' L → Go p.tables e below P T' { g with pc := g.pc + 3, stack := v.toList ++ rest }) : Go p.tables e below P T g := by
  obtain ⟨cq, kq, qa, qb, qc⟩ := isOf hZ eT E
  exact Go.back (vs := as') (vm1 := fun _ => ⟨T, [], 0, 0⟩) (X.virtualBackUp hx (x := y) (y := z) hown (mvT hZ w1) (mvT hZ w2) (mvT hZ w7) hy (mvT hZ w5) (mvT hZ w6) (backOf (W := W) (a0 := a0) hM hZ w4 w3 hf hl) qa qc (g := g) hg hsize (Steps.refl _) (argsL := argsL) (rest := rest) hlen hst hW hd (fun _ _ => ⟨ha, eT, hc, hs⟩)) k
theorem ldCV (X : Stand p l e R s m args below meth c T locs cells slots) (hx : p.tables.exec = Jvm.exec) (hZ : Z.Warmed39 s.vm) (eT : T.heap = h) {a : Addr} {k : ClassId} {z : Int32} {vs : List Value} {d : Value} (F : Arv Z h a k .char z vs d) {j : Int32} (hj : ¬ j < 0 ∧ j < z) {v : Value} (hv : vs.getD j.toNatClampNeg d = v) {g : JFrame} (hg : g.method = m) {rest : List Value} (hs : g.stack = .int j :: .ref a :: rest) (hd : decode c.code g.pc = .ok (.caload, 1)) {target : State}
    (kk : Steps p.tables e below (T.setTop { g with pc := g.pc + 1, stack := v :: rest }) target) : Steps p.tables e below (T.setTop g) target := by
  obtain ⟨cl, A, q1, S, q3, H, G⟩ := F
  exact X.caload hx (j := j) (v := v) (by rw [eT]; exact A.1) (State.isArrayOf_alike hZ.alike A.2.1) A.2.2 (inb_of S hj) (H.at (inb_of S hj) hv) hg hs hd _ kk
theorem ldBV (X : Stand p l e R s m args below meth c T locs cells slots) (hx : p.tables.exec = Jvm.exec) (hZ : Z.Warmed39 s.vm) (eT : T.heap = h) {a : Addr} {k : ClassId} {z : Int32} {vs : List Value} {d : Value} (F : Arv Z h a k .byte z vs d) {j : Int32} (hj : ¬ j < 0 ∧ j < z) {v : Value} (hv : vs.getD j.toNatClampNeg d = v) {g : JFrame} (hg : g.method = m) {rest : List Value} (hs : g.stack = .int j :: .ref a :: rest) (hd : decode c.code g.pc = .ok (.baload, 1)) {target : State}
    (kk : Steps p.tables e below (T.setTop { g with pc := g.pc + 1, stack := v :: rest }) target) : Steps p.tables e below (T.setTop g) target := by
  obtain ⟨cl, A, q1, S, q3, H, G⟩ := F
  exact X.baloadBytes hx (j := j) (v := v) (by rw [eT]; exact A.1) (State.isArrayOf_alike hZ.alike A.2.1) A.2.2 (inb_of S hj) (H.at (inb_of S hj) hv) hg hs hd _ kk
theorem ldIV (X : Stand p l e R s m args below meth c T locs cells slots) (hx : p.tables.exec = Jvm.exec) (hZ : Z.Warmed39 s.vm) (eT : T.heap = h) {a : Addr} {k : ClassId} {z : Int32} {vs : List Value} {d : Value} (F : Arv Z h a k .int z vs d) {j : Int32} (hj : ¬ j < 0 ∧ j < z) {v : Value} (hv : vs.getD j.toNatClampNeg d = v) {g : JFrame} (hg : g.method = m) {rest : List Value} (hs : g.stack = .int j :: .ref a :: rest) (hd : decode c.code g.pc = .ok (.iaload, 1)) {target : State}
    (kk : Steps p.tables e below (T.setTop { g with pc := g.pc + 1, stack := v :: rest }) target) : Steps p.tables e below (T.setTop g) target := by
  obtain ⟨cl, A, q1, S, q3, H, G⟩ := F
  exact X.iaload hx (j := j) (v := v) (by rw [eT]; exact A.1) (State.isArrayOf_alike hZ.alike A.2.1) A.2.2 (inb_of S hj) (H.at (inb_of S hj) hv) hg hs hd _ kk
theorem ldRV (X : Stand p l e R s m args below meth c T locs cells slots) (hx : p.tables.exec = Jvm.exec) (hZ : Z.Warmed39 s.vm) (eT : T.heap = h) {a : Addr} {k : ClassId} {C : String} {z : Int32} {vs : List Value} {d : Value} (F : Arv Z h a k (.object C) z vs d) {j : Int32} (hj : ¬ j < 0 ∧ j < z) {v : Value} (hv : vs.getD j.toNatClampNeg d = v) {g : JFrame} (hg : g.method = m) {rest : List Value} (hs : g.stack = .int j :: .ref a :: rest) (hd : decode c.code g.pc = .ok (.aaload, 1)) {target : State}
    (kk : Steps p.tables e below (T.setTop { g with pc := g.pc + 1, stack := v :: rest }) target) : Steps p.tables e below (T.setTop g) target := by
  obtain ⟨cl, A, q1, S, q3, H, G⟩ := F
  exact X.aaload hx (j := j) (v := v) (by rw [eT]; exact A.1) (State.isArrayOf_alike hZ.alike A.2.1) rfl A.2.2 (inb_of S hj) (H.at (inb_of S hj) hv) hg hs hd _ kk
theorem lenV (X : Stand p l e R s m args below meth c T locs cells slots) (hx : p.tables.exec = Jvm.exec) (hZ : Z.Warmed39 s.vm) (eT : T.heap = h) {a : Addr} {k : ClassId} {ty : FieldType} {z : Int32} {vs : List Value} {d : Value} (F : Arv Z h a k ty z vs d) {g : JFrame} (hg : g.method = m) {rest : List Value} (hs : g.stack = .ref a :: rest) (hd : decode c.code g.pc = .ok (.arraylength, 1)) {target : State}
    (kk : Steps p.tables e below (T.setTop { g with pc := g.pc + 1, stack := .int z :: rest }) target) : Steps p.tables e below (T.setTop g) target := by
  obtain ⟨cl, A, q1, S, q3, H, G⟩ := F
  refine X.arraylength hx (by rw [eT]; exact A.1) (State.isArrayOf_alike hZ.alike A.2.1) hg hs hd _ ?_
  rw [len_of S q3]; exact kk
theorem stCV (X : Stand p l e R s m args below meth c T locs cells slots) (hx : p.tables.exec = Jvm.exec) (hZ : Z.Warmed39 s.vm) (eT : T.heap = h) {a : Addr} {k : ClassId} {z : Int32} {vs : List Value} {d : Value} (F : Arv Z h a k .char z vs d) {j x : Int32} {i : Nat} (hj : ¬ j < 0 ∧ j < z) (hi : j.toNatClampNeg = i) (hl : i < vs.length) {g : JFrame} (hg : g.method = m) {rest : List Value} (hs : g.stack = .int x :: .int j :: .ref a :: rest) (hd : decode c.code g.pc = .ok (.castore, 1)) :
    ∃ T' h', Stand p l e R s m args below meth c T' (locs ++ [⟨a, j.toNatClampNeg⟩]) cells slots ∧ T'.heap = h' ∧ Wr h h' a j.toNatClampNeg (.int (nar .char x)) ∧ Arv Z h' a k .char z (vs.set i (.int (nar .char x))) d ∧ ∀ target, Steps p.tables e below (T'.setTop { g with pc := g.pc + 1, stack := rest }) target → Steps p.tables e below (T.setTop g) target := by
  obtain ⟨cl, A, q1, S, q3, H, G⟩ := F
  obtain ⟨T', h', X', e', W, st⟩ := stC X hx hZ eT A (inb_of S hj) hg hs hd
  exact ⟨T', h', X', e', W, Arv.set A q1 S q3 H G (fits_nar_char _) W i hi hl, st⟩
theorem stBV (X : Stand p l e R s m args below meth c T locs cells slots) (hx : p.tables.exec = Jvm.exec) (hZ : Z.Warmed39 s.vm) (eT : T.heap = h) {a : Addr} {k : ClassId} {z : Int32} {vs : List Value} {d : Value} (F : Arv Z h a k .byte z vs d) {j x : Int32} {i : Nat} (hj : ¬ j < 0 ∧ j < z) (hi : j.toNatClampNeg = i) (hl : i < vs.length) {g : JFrame} (hg : g.method = m) {rest : List Value} (hs : g.stack = .int x :: .int j :: .ref a :: rest) (hd : decode c.code g.pc = .ok (.bastore, 1)) :
    ∃ T' h', Stand p l e R s m args below meth c T' (locs ++ [⟨a, j.toNatClampNeg⟩]) cells slots ∧ T'.heap = h' ∧ Wr h h' a j.toNatClampNeg (.int (nar .byte x)) ∧ Arv Z h' a k .byte z (vs.set i (.int (nar .byte x))) d ∧ ∀ target, Steps p.tables e below (T'.setTop { g with pc := g.pc + 1, stack := rest }) target → Steps p.tables e below (T.setTop g) target := by
  obtain ⟨cl, A, q1, S, q3, H, G⟩ := F
  obtain ⟨T', h', X', e', W, st⟩ := stB X hx hZ eT A (inb_of S hj) hg hs hd
  exact ⟨T', h', X', e', W, Arv.set A q1 S q3 H G (fits_nar_byte _) W i hi hl, st⟩
theorem eqv_r {Z : State} {args : Array Value} {X F : Term} {idx : List Nat} {y : Addr} (hF : F.eval args Z none idx Z = some (.ref y)) (h : (Cond.eq X F).value args Z none Z idx = some true) : X.eval args Z none idx Z = some (.ref y) := by
  cases hX : X.eval args Z none idx Z with
  | none => simp [Cond.value, hX] at h
  | some v => cases v <;> simp [Cond.value, hX, hF] at h ⊢; exact h
theorem Arv.startL {Z : State} {args : Array Value} {t : Term} {a : Addr} {ty : FieldType} {z : Int32} {vs : List Value} {dv : Value} (hf : Fit Z) (et : t.eval args Z none [] Z = some (.ref a)) (ha : (Cond.arrayOf t ty).value args Z none Z [] = some true) (hl : (Cond.eq (.length t) (.int z)).value args Z none Z [] = some true)
    (hz : ¬ z < 0) (hn : z.toNatClampNeg = vs.length) (H : ∀ c, Z.heap[a]? = some c → HasL c 0 vs) : ∃ k, Arv Z Z.heap a k ty z vs dv := by
  obtain ⟨c, A⟩ := Arr.start et ha
  obtain ⟨b, cell, e1, e2, e3, e4⟩ := Jvm.Lib.length_spec (eqv_i rfl hl)
  cases et.symm.trans e1
  cases (A.fin (Vm.Alike.refl _)).symm.trans e2
  exact ⟨c.cls, Arv.start hf A e3 (Value.int.inj e4).symm hz hn (H c A.1)⟩
theorem Keep.toExt (K : Keep h h' []) : Ext h h' := ⟨K.1, fun a c q => K.2.1 a c q (fun z => nomatch z)⟩
theorem Ext.toKeep (E : Ext h h') : Keep h h' [] := ⟨E.1, fun a c q _ => E.2 a c q, fun a c q => ⟨c, E.2 a c q, rfl, rfl, rfl⟩⟩
theorem Ext.refl (h : Heap) : Ext h h := ⟨Nat.le_refl _, fun _ _ q => q⟩
theorem Ext.tr {h2 : Heap} (A : Ext h h') (B : Ext h' h2) : Ext h h2 := ⟨Nat.le_trans A.1 B.1, fun a c q => B.2 a c (A.2 a c q)⟩
theorem Ext.thenK {h2 : Heap} {ws : List Addr} (A : Ext h h') (K : Keep h' h2 ws) (q : ∀ x ∈ ws, h.size ≤ x) : Ext h h2 := (A.toKeep.trans K fun x hx => Or.inr (q x hx)).toExt
theorem Ext.thenW {h2 : Heap} {a : Addr} {sl : Nat} {v : Value} (A : Ext h h') (W : Wr h' h2 a sl v) (q : h.size ≤ a) : Ext h h2 := (A.toKeep.wr W (Or.inr q)).toExt
/-- a String: its coder and its bytes -/
def StrB (Z : State) (h : Heap) (a : Addr) (cd : Int32) (bs : List Int32) : Prop := ∃ (t : Addr) (k : ClassId), Exa Z h a "java/lang/String" ∧ Fld Z h a "java/lang/String" "coder" "B" (.int cd) ∧ Fld Z h a "java/lang/String" "value" "[B" (.ref t) ∧ Arv Z h t k .byte (Int32.ofNat bs.length) (bs.map Value.int) (.int (0 : Int32))
theorem StrB.ext {a : Addr} {cd : Int32} {bs : List Int32} (F : StrB Z h a cd bs) (E : Ext h h') : StrB Z h' a cd bs := by
  obtain ⟨t, k, h1, h2, h3, h4⟩ := F; exact ⟨t, k, h1.ext E, h2.ext E, h3.ext E, h4.ext E⟩
theorem StrB.lt {a : Addr} {cd : Int32} {bs : List Int32} (F : StrB Z h a cd bs) : a < h.size := by obtain ⟨t, k, h1, -⟩ := F; exact h1.lt
theorem StrB.exa {a : Addr} {cd : Int32} {bs : List Int32} (F : StrB Z h a cd bs) : Exa Z h a "java/lang/String" := by obtain ⟨t, k, h1, -⟩ := F; exact h1
theorem StrB.keepO {a b : Addr} {C : String} {kk : Nat} {cd : Int32} {bs : List Int32} (F : StrB Z h a cd bs) (E : Exa Z h b C) (hC : C ≠ "java/lang/String") (wi : (Cond.instantiable C kk).before a0 Z = true) (K : Keep h h' [b]) : StrB Z h' a cd bs := by
  obtain ⟨t, k, h1, h2, h3, h4⟩ := F
  have n1 : a ≠ b := ne_exa h1 E (Ne.symm hC)
  have n2 : t ≠ b := by obtain ⟨c, A, -⟩ := h4; exact Ne.symm (ne_arr E wi A)
  exact ⟨t, k, h1.keep K, h2.keep K (ninS n1 nin0), h3.keep K (ninS n1 nin0), h4.keep K (ninS n2 nin0)⟩
theorem StrB.wrO {a b : Addr} {sl : Nat} {v : Value} {C : String} {kk : Nat} {cd : Int32} {bs : List Int32} (F : StrB Z h a cd bs) (E : Exa Z h b C) (hC : C ≠ "java/lang/String") (wi : (Cond.instantiable C kk).before a0 Z = true) (W : Wr h h' b sl v) : StrB Z h' a cd bs := F.keepO E hC wi (Keep.of_wr W)
theorem Arv.uniq {a : Addr} {k k' : ClassId} {ty ty' : FieldType} {bs ds : List Int32} (lb : bs.length < 2 ^ 31) (ld : ds.length < 2 ^ 31) (A : Arv Z h a k ty (Int32.ofNat bs.length) (bs.map Value.int) (.int 0)) (B : Arv Z h a k' ty' (Int32.ofNat ds.length) (ds.map Value.int) (.int 0)) : bs = ds := by
  obtain ⟨c1, A1, -, A3, -, A5, -⟩ := A
  obtain ⟨c2, B1, -, B3, -, B5, -⟩ := B
  cases A1.1.symm.trans B1.1
  have z : ∀ n : Nat, n < 2 ^ 31 → (Int32.ofNat n).toNatClampNeg = n := fun n hn => by
    have q : (Int32.ofNat n).toInt = n := Int32.toInt_ofNat_of_lt (by omega)
    simp [Int32.toNatClampNeg, q]
  rw [z _ lb] at A3
  rw [z _ ld] at B3
  have hl : bs.length = ds.length := A3.symm.trans B3
  refine List.ext_getElem hl fun i h1 h2 => ?_
  have q := (A5 i (by omega)).symm.trans (B5 i (by omega))
  simpa [List.getD_eq_getElem?_getD, h1, h2] using q
theorem StrB.uniq {a : Addr} {cd cd' : Int32} {bs ds : List Int32} (lb : bs.length < 2 ^ 31) (ld : ds.length < 2 ^ 31) (F : StrB Z h a cd bs) (G : StrB Z h a cd' ds) : cd = cd' ∧ bs = ds := by
  obtain ⟨t, k, h1, h2, h3, h4⟩ := F
  obtain ⟨t', k', g1, g2, g3, g4⟩ := G
  have e1 : cd = cd' := Classical.byContradiction fun q => h2.ne g2 (fun z => q (Value.int.inj z)) rfl
  have e2 : t = t' := Classical.byContradiction fun q => h3.ne g3 (fun z => q (Value.ref.inj z)) rfl
  subst e2
  exact ⟨e1, h4.uniq lb ld g4⟩
theorem NS.rootI {O K : String} {kk : Nat} (w : (Cond.noSuperclass O).before a0 Z = true) (wk : (Cond.instantiable K kk).before a0 Z = true) (hn : O ≠ K) : NS Z O K := by
  obtain ⟨c, k, h1, h2, h3, -, -⟩ := Cond.noSuperclass_spec w
  obtain ⟨t, kt, g1, -⟩ := Cond.instantiable_spec wk
  have ne := ids_ne h1 g1 hn
  refine ⟨c, t, h1, g1, fun fuel => ?_⟩
  cases fuel with
  | zero => rfl
  | succ f => simp [Vm.isSubclassAux, ne, h2, h3]
theorem NS.noI {C S K : String} {kk : Nat} (w : (Cond.superclass C S).before a0 Z = true) (wk : (Cond.instantiable K kk).before a0 Z = true) (n : NS Z C K) (hn : C ≠ K) : ∃ c t, Z.vm.findClass C = some c ∧ Z.vm.findClass K = some t ∧ Z.vm.assignable c t = false := by
  obtain ⟨c, t, h0, g0, n3⟩ := n
  obtain ⟨p, k, kp, h1, h2, h3, h4, h5, -, h7⟩ := Cond.superclass_spec h0 w
  obtain ⟨t', kt, g1, g2, g3, g4, -⟩ := Cond.instantiable_spec wk
  cases g0.symm.trans g1
  have g7 : kt.isInterface = false := by simp only [Bool.or_eq_false_iff] at g4; exact g4.1
  have ne := ids_ne h0 g0 hn
  refine ⟨c, t, h0, g0, ?_⟩
  show Z.vm.assignableAux (255 + 1) c t = false
  simp [Vm.assignableAux, ne, h2, g2, h5, g3, g7, Vm.isSubclass, n3]
theorem i2c_id {x : Int32} (h : 0 ≤ x.toInt ∧ x.toInt < 65536) : x.toUInt32.toUInt16.toUInt32.toInt32 = x := by
  have q := c_i2c x
  exact Int32.toInt_inj.mp (by omega)
theorem i2b_id {x : Int32} (h : -128 ≤ x.toInt ∧ x.toInt < 128) : x.toInt8.toInt32 = x := by
  have q := c_i2b x
  exact Int32.toInt_inj.mp (by omega)
theorem nar_b {x : Int32} : nar .byte (x.toInt8.toInt32) = x.toInt8.toInt32 := i2b_id (c_i2b x).2
theorem nar_c {x : Int32} : nar .char (x.toUInt32.toUInt16.toUInt32.toInt32) = x.toUInt32.toUInt16.toUInt32.toInt32 := i2c_id (c_i2c x).2
theorem nar_cid {x : Int32} (h : 0 ≤ x.toInt ∧ x.toInt < 65536) : nar .char x = x := i2c_id h
theorem and255 (x : Int32) : 0 ≤ ((x &&& 255).toUInt32.toUInt16.toUInt32.toInt32).toInt ∧ ((x &&& 255).toUInt32.toUInt16.toUInt32.toInt32).toInt ≤ 255 := by
  have h := c_mask x 255 8 (by decide) (by decide)
  have q := c_i2c (x &&& 255)
  omega
theorem le255 {x : Int32} (h : 0 ≤ x.toInt ∧ x.toInt ≤ 255) : ¬ (255 : Int32) < x := by rw [Int32.lt_iff_toInt_lt]; have : (255 : Int32).toInt = 255 := rfl; omega
theorem ne_lt {x b i j : Nat} (h1 : x < i) (h2 : i ≤ j) (h3 : j ≤ b) : x ≠ b := by omega
theorem own_add0 (n : Nat) : n + 0 = n := rfl
end OwnGo
end Jvm.RoadKit
namespace Jvm.Pilot.@@N@@
open Jvm Jvm.ClassFile Sem Op Lib Jvm.Free Jvm.Stand Jvm.LawKit Jvm.RoadKit Bundle Jvm.Pilot.@@N@@.Jvm.D
theorem t_lt {a b : Int32} (h : a < b) : a.toInt < b.toInt := Int32.lt_iff_toInt_lt.mp h
theorem t_nlt {a b : Int32} (h : ¬ a < b) : ¬ a.toInt < b.toInt := fun q => h (Int32.lt_iff_toInt_lt.mpr q)
theorem t_eq {a b : Int32} (h : a = b) : a.toInt = b.toInt := by rw [h]
theorem t_ne {a b : Int32} (h : ¬ a = b) : ¬ a.toInt = b.toInt := fun q => h (Int32.toInt_inj.mp q)
theorem k_m1 : (-1 : Int32).toInt = -1 := by decide
theorem k_0 : (0 : Int32).toInt = 0 := by decide
theorem k_1 : (1 : Int32).toInt = 1 := by decide
theorem k_10 : (10 : Int32).toInt = 10 := by decide
theorem k_48 : (48 : Int32).toInt = 48 := by decide
theorem k_97 : (97 : Int32).toInt = 97 := by decide
def hx (c d : Int) : Prop := (d < 10 → c = 48 + d) ∧ (10 ≤ d → c = 87 + d)
theorem own_hexA {d : Int32} (h : 0 ≤ d.toInt ∧ d.toInt ≤ 15) (q : ¬ (10 : Int32) ≤ d ∨ d < 10) : hx ((48 + d).toUInt32.toUInt16.toUInt32.toInt32).toInt d.toInt := by
  have a := c_iadd 48 d
  have b := c_i2c (48 + d)
  have r := rng32 (48 + d)
  have k := k_48
  have z : d.toInt < 10 := by
    rcases q with q | q
    · have := Int32.not_le.mp q; exact t_lt this
    · exact t_lt q
  constructor <;> intro _ <;> omega
theorem own_hexB {d : Int32} (h : 0 ≤ d.toInt ∧ d.toInt ≤ 15) (q : ¬ d < 10) : hx ((97 + (d - 10)).toUInt32.toUInt16.toUInt32.toInt32).toInt d.toInt := by
  have a0 := c_isub d 10
  have a := c_iadd 97 (d - 10)
  have b := c_i2c (97 + (d - 10))
  have r := rng32 (97 + (d - 10))
  have r0 := rng32 (d - 10)
  have k := k_97
  have k' := k_10
  have z := t_nlt q
  constructor <;> intro _ <;> omega
theorem d2_0 : decode method_2_code 0 = .ok (.iload_n 0, 1) := by decide +kernel
theorem d2_1 : decode method_2_code 1 = .ok (.bipush 10, 2) := by decide +kernel
theorem d2_3 : decode method_2_code 3 = .ok (.if_icmp .ge 11, 3) := by decide +kernel
theorem d2_6 : decode method_2_code 6 = .ok (.bipush 48, 2) := by decide +kernel
theorem d2_8 : decode method_2_code 8 = .ok (.iload_n 0, 1) := by decide +kernel
theorem d2_9 : decode method_2_code 9 = .ok (.iadd, 1) := by decide +kernel
theorem d2_10 : decode method_2_code 10 = .ok (.i2c, 1) := by decide +kernel
theorem d2_11 : decode method_2_code 11 = .ok (.goto 11, 3) := by decide +kernel
theorem d2_22 : decode method_2_code 22 = .ok (.ireturn, 1) := by decide +kernel
theorem d2_14 : decode method_2_code 14 = .ok (.bipush 97, 2) := by decide +kernel
theorem d2_16 : decode method_2_code 16 = .ok (.iload_n 0, 1) := by decide +kernel
theorem d2_17 : decode method_2_code 17 = .ok (.bipush 10, 2) := by decide +kernel
theorem d2_19 : decode method_2_code 19 = .ok (.isub, 1) := by decide +kernel
theorem d2_20 : decode method_2_code 20 = .ok (.iadd, 1) := by decide +kernel
theorem d2_21 : decode method_2_code 21 = .ok (.i2c, 1) := by decide +kernel
def rr_hex : Room := { frames := 0, cells := 0, slots := 0, locals := 0 }
theorem pn0 : plainName "com/example/tokenweave/tokenweave/core/EntryNameCompareToPinLaw" = true := by first | (simp [plainName, overriddenIn]; done) | decide +kernel
set_option maxRecDepth 65536 in
set_option maxHeartbeats 40000000 in
theorem rm_hex (l : Launch) (Z : State) (a0 : Array Value) (hw : ∀ d ∈ tables_1, d.before a0 Z = true) (ws : List Jvm.Cond) (d : Int32) (h0 : Heap) (n0 : Nat) (Z0 : n0 ≤ h0.size) (hd : 0 ≤ d.toInt ∧ d.toInt ≤ 15) :
    Con l Z (⟨"com/example/tokenweave/tokenweave/core/EntryNameCompareToPinLaw", "hex", "(I)C"⟩ : MethodName) method_2_code 1 (some .char) ws rr_hex #[(.int d)] h0 (fun v h L => ∃ c : Int32, v = some (.int c) ∧ hx c.toInt d.toInt ∧ Fr n0 L ∧ h = h0) := by
  refine Con.enter (plainFor_of_name pn0) ?_
  intro p e s m below meth c s₁ X0 hx hZ hby hml hret hlk hown hnm e0
  have N0 := Fr.nil n0
  refine Go.cast (g' := (mkF m 0 #[.val (.int d)] [])) (by first | rfl | (simp [entryFrame, mkF, argsToLocals, Value.category]; done)) ?_
  refine Go.st (T' := s₁) (g' := (mkF m 1 #[.val (.int d)] [(.int d)])) (fun _ zk => XS.iloadN X0.here hx rfl (hb hby d2_0) rfl zk) ?_
  refine Go.st (T' := s₁) (g' := (mkF m 3 #[.val (.int d)] [(.int (10 : Int32)), (.int d)])) (fun _ zk => XS.bipush X0.here hx rfl (hb hby d2_1) zk) ?_
  by_cases hc3 : d < (10 : Int32)
  · refine Go.st (T' := s₁) (g' := (mkF m 6 #[.val (.int d)] [])) (fun _ zk => XS.icmpNo X0.here hx rfl (hb hby d2_3) rfl (tlt hc3).2.1 zk) ?_
    refine Go.st (T' := s₁) (g' := (mkF m 8 #[.val (.int d)] [(.int (48 : Int32))])) (fun _ zk => XS.bipush X0.here hx rfl (hb hby d2_6) zk) ?_
    refine Go.st (T' := s₁) (g' := (mkF m 9 #[.val (.int d)] [(.int d), (.int (48 : Int32))])) (fun _ zk => XS.iloadN X0.here hx rfl (hb hby d2_8) rfl zk) ?_
    refine Go.st (T' := s₁) (g' := (mkF m 10 #[.val (.int d)] [(.int ((48 : Int32) + d))])) (fun _ zk => XS.iadd X0.here hx rfl (hb hby d2_9) rfl zk) ?_
    refine Go.st (T' := s₁) (g' := (mkF m 11 #[.val (.int d)] [(.int (((48 : Int32) + d).toUInt32.toUInt16.toUInt32.toInt32))])) (fun _ zk => XS.i2c X0.here hx rfl (hb hby d2_10) rfl zk) ?_
    refine Go.st (T' := s₁) (g' := (mkF m 22 #[.val (.int d)] [(.int (((48 : Int32) + d).toUInt32.toUInt16.toUInt32.toInt32))])) (fun _ zk => XS.goto X0.here hx rfl (pc0 := 11) (pc' := 22) rfl (hb hby d2_11) (by decide) (by decide) zk) ?_
    refine Go.retN X0 hx hlk hret (congrArg Value.int nar_c) (by simp) (hb hby d2_22) (by decide) (by decide) e0 ?_
    exact ⟨_, rfl, own_hexA hd (Or.inr hc3), N0, rfl⟩
  · refine Go.st (T' := s₁) (g' := (mkF m 14 #[.val (.int d)] [])) (fun _ zk => XS.icmpYes X0.here hx rfl (pc0 := 3) (pc' := 14) rfl (hb hby d2_3) rfl (flt hc3).2.1 (by decide) (by decide) zk) ?_
    refine Go.st (T' := s₁) (g' := (mkF m 16 #[.val (.int d)] [(.int (97 : Int32))])) (fun _ zk => XS.bipush X0.here hx rfl (hb hby d2_14) zk) ?_
    refine Go.st (T' := s₁) (g' := (mkF m 17 #[.val (.int d)] [(.int d), (.int (97 : Int32))])) (fun _ zk => XS.iloadN X0.here hx rfl (hb hby d2_16) rfl zk) ?_
    refine Go.st (T' := s₁) (g' := (mkF m 19 #[.val (.int d)] [(.int (10 : Int32)), (.int d), (.int (97 : Int32))])) (fun _ zk => XS.bipush X0.here hx rfl (hb hby d2_17) zk) ?_
    refine Go.st (T' := s₁) (g' := (mkF m 20 #[.val (.int d)] [(.int (d - (10 : Int32))), (.int (97 : Int32))])) (fun _ zk => XS.isub X0.here hx rfl (hb hby d2_19) rfl zk) ?_
    refine Go.st (T' := s₁) (g' := (mkF m 21 #[.val (.int d)] [(.int ((97 : Int32) + (d - (10 : Int32))))])) (fun _ zk => XS.iadd X0.here hx rfl (hb hby d2_20) rfl zk) ?_
    refine Go.st (T' := s₁) (g' := (mkF m 22 #[.val (.int d)] [(.int (((97 : Int32) + (d - (10 : Int32))).toUInt32.toUInt16.toUInt32.toInt32))])) (fun _ zk => XS.i2c X0.here hx rfl (hb hby d2_21) rfl zk) ?_
    refine Go.retN X0 hx hlk hret (congrArg Value.int nar_c) (by simp) (hb hby d2_22) (by decide) (by decide) e0 ?_
    exact ⟨_, rfl, own_hexB hd hc3, N0, rfl⟩
theorem own_dig {h : Int32} (b : 0 ≤ h.toInt ∧ h.toInt ≤ 65535) (s : Int32) (k : Nat) (hk : s.toBitVec.toNat % 32 = k) (h0 : 0 < k) (P : Int) (hP : ((2 ^ k : Nat) : Int) = P) : (((h.toUInt32 >>> (s &&& 31).toUInt32).toInt32) &&& 15).toInt = (h.toInt / P) % 16 := by
  have a := c_iushr h s k hk h0
  have m := c_mask ((h.toUInt32 >>> (s &&& 31).toUInt32).toInt32) 15 4 (by decide) (by decide)
  rw [m, a, hP]
  have e : h.toInt % 4294967296 = h.toInt := by omega
  rw [e]; rfl
theorem own_dig0 {h : Int32} : (h &&& 15).toInt = h.toInt % 16 := by
  have m := c_mask h 15 4 (by decide) (by decide)
  rw [m]; rfl
theorem own_hx {c d : Int} (h : hx c d) (b : 0 ≤ d ∧ d ≤ 15) : 48 ≤ c ∧ c ≤ 102 := by
  obtain ⟨h1, h2⟩ := h
  omega
theorem d7_0 : decode jdk_52_method_21_code 0 = .ok (.iconst 0, 1) := by decide +kernel
theorem d7_1 : decode jdk_52_method_21_code 1 = .ok (.istore 5, 2) := by decide +kernel
theorem d7_3 : decode jdk_52_method_21_code 3 = .ok (.iload 5, 2) := by decide +kernel
theorem d7_5 : decode jdk_52_method_21_code 5 = .ok (.iload 4, 2) := by decide +kernel
theorem d7_7 : decode jdk_52_method_21_code 7 = .ok (.if_icmp .ge 37, 3) := by decide +kernel
theorem d7_10 : decode jdk_52_method_21_code 10 = .ok (.aload_n 0, 1) := by decide +kernel
theorem d7_11 : decode jdk_52_method_21_code 11 = .ok (.iload_n 1, 1) := by decide +kernel
theorem d7_12 : decode jdk_52_method_21_code 12 = .ok (.caload, 1) := by decide +kernel
theorem d7_13 : decode jdk_52_method_21_code 13 = .ok (.istore 6, 2) := by decide +kernel
theorem d7_15 : decode jdk_52_method_21_code 15 = .ok (.iload 6, 2) := by decide +kernel
theorem d7_17 : decode jdk_52_method_21_code 17 = .ok (.sipush 255, 3) := by decide +kernel
theorem d7_20 : decode jdk_52_method_21_code 20 = .ok (.if_icmp .le 6, 3) := by decide +kernel
theorem d7_26 : decode jdk_52_method_21_code 26 = .ok (.aload_n 2, 1) := by decide +kernel
theorem d7_27 : decode jdk_52_method_21_code 27 = .ok (.iload_n 3, 1) := by decide +kernel
theorem d7_28 : decode jdk_52_method_21_code 28 = .ok (.iload 6, 2) := by decide +kernel
theorem d7_30 : decode jdk_52_method_21_code 30 = .ok (.i2b, 1) := by decide +kernel
theorem d7_31 : decode jdk_52_method_21_code 31 = .ok (.bastore, 1) := by decide +kernel
theorem d7_32 : decode jdk_52_method_21_code 32 = .ok (.iinc 1 1, 3) := by decide +kernel
theorem d7_35 : decode jdk_52_method_21_code 35 = .ok (.iinc 3 1, 3) := by decide +kernel
theorem d7_38 : decode jdk_52_method_21_code 38 = .ok (.iinc 5 1, 3) := by decide +kernel
theorem d7_41 : decode jdk_52_method_21_code 41 = .ok (.goto (-38), 3) := by decide +kernel
theorem d7_44 : decode jdk_52_method_21_code 44 = .ok (.iload 4, 2) := by decide +kernel
theorem d7_46 : decode jdk_52_method_21_code 46 = .ok (.ireturn, 1) := by decide +kernel
def rr_cmp5_4 : Room := { frames := 0, cells := 0, slots := 0, locals := 0 }
theorem pn1 : plainName "java/lang/StringUTF16" = true := by first | (simp [plainName, overriddenIn]; done) | decide +kernel
set_option maxRecDepth 65536 in
set_option maxHeartbeats 40000000 in
theorem rm_cmp5_4 (l : Launch) (Z : State) (a0 : Array Value) (hw : ∀ d ∈ tables_1, d.before a0 Z = true) (ws : List Jvm.Cond) (b d : Addr) (kC kB : ClassId) (c0 c1 c2 c3 : Int32) (h0 : Heap) (n0 : Nat) (Z0 : n0 ≤ h0.size) (VC : Arv Z h0 b kC .char (4 : Int32) [(.int c0), (.int c1), (.int c2), (.int c3)] (.int (0 : Int32))) (VB : Arv Z h0 d kB .byte (4 : Int32) [(.int (0 : Int32)), (.int (0 : Int32)), (.int (0 : Int32)), (.int (0 : Int32))] (.int (0 : Int32))) (hbd : b ≠ d) (gd : n0 ≤ d) (p0 : ¬ (255 : Int32) < c0) (p1 : ¬ (255 : Int32) < c1) (p2 : ¬ (255 : Int32) < c2) (p3 : ¬ (255 : Int32) < c3) :
    Con l Z (⟨"java/lang/StringUTF16", "compress", "([CI[BII)I"⟩ : MethodName) jdk_52_method_21_code 7 (some .int) ws rr_cmp5_4 #[(.ref b), (.int (0 : Int32)), (.ref d), (.int (0 : Int32)), (.int (4 : Int32))] h0 (fun v h L => v = some (.int (4 : Int32)) ∧ Fr n0 L ∧ Keep h0 h [d] ∧ Arv Z h d kB .byte (4 : Int32) [(.int (c0.toInt8.toInt32)), (.int (c1.toInt8.toInt32)), (.int (c2.toInt8.toInt32)), (.int (c3.toInt8.toInt32))] (.int (0 : Int32))) := by
  refine Con.enter (plainFor_of_name pn1) ?_
  intro p e s m below meth c s₁ X0 hx hZ hby hml hret hlk hown hnm e0
  have N0 := Fr.nil n0
  refine Go.cast (g' := (mkF m 0 #[.val (.ref b), .val (.int (0 : Int32)), .val (.ref d), .val (.int (0 : Int32)), .val (.int (4 : Int32)), .unset, .unset] [])) (by first | rfl | (simp [entryFrame, mkF, argsToLocals, Value.category]; done)) ?_
  refine Go.st (T' := s₁) (g' := (mkF m 1 #[.val (.ref b), .val (.int (0 : Int32)), .val (.ref d), .val (.int (0 : Int32)), .val (.int (4 : Int32)), .unset, .unset] [(.int (0 : Int32))])) (fun _ zk => XS.iconst X0.here hx rfl (hb hby d7_0) zk) ?_
  refine Go.st (T' := s₁) (g' := (mkF m 3 #[.val (.ref b), .val (.int (0 : Int32)), .val (.ref d), .val (.int (0 : Int32)), .val (.int (4 : Int32)), .val (.int (0 : Int32)), .unset] [])) (fun _ zk => XS.istore X0.here hx rfl (hb hby d7_1) rfl (l' := #[.val (.ref b), .val (.int (0 : Int32)), .val (.ref d), .val (.int (0 : Int32)), .val (.int (4 : Int32)), .val (.int (0 : Int32)), .unset]) rfl zk) ?_
  refine Go.st (T' := s₁) (g' := (mkF m 5 #[.val (.ref b), .val (.int (0 : Int32)), .val (.ref d), .val (.int (0 : Int32)), .val (.int (4 : Int32)), .val (.int (0 : Int32)), .unset] [(.int (0 : Int32))])) (fun _ zk => XS.iload X0.here hx rfl (hb hby d7_3) rfl zk) ?_
  refine Go.st (T' := s₁) (g' := (mkF m 7 #[.val (.ref b), .val (.int (0 : Int32)), .val (.ref d), .val (.int (0 : Int32)), .val (.int (4 : Int32)), .val (.int (0 : Int32)), .unset] [(.int (4 : Int32)), (.int (0 : Int32))])) (fun _ zk => XS.iload X0.here hx rfl (hb hby d7_5) rfl zk) ?_
  refine Go.st (T' := s₁) (g' := (mkF m 10 #[.val (.ref b), .val (.int (0 : Int32)), .val (.ref d), .val (.int (0 : Int32)), .val (.int (4 : Int32)), .val (.int (0 : Int32)), .unset] [])) (fun _ zk => XS.icmpNo X0.here hx rfl (hb hby d7_7) rfl (tlt ((by decide) : (0 : Int32) < (4 : Int32))).2.1 zk) ?_
  refine Go.st (T' := s₁) (g' := (mkF m 11 #[.val (.ref b), .val (.int (0 : Int32)), .val (.ref d), .val (.int (0 : Int32)), .val (.int (4 : Int32)), .val (.int (0 : Int32)), .unset] [(.ref b)])) (fun _ zk => XS.aloadN X0.here hx rfl (hb hby d7_10) rfl rfl zk) ?_
  refine Go.st (T' := s₁) (g' := (mkF m 12 #[.val (.ref b), .val (.int (0 : Int32)), .val (.ref d), .val (.int (0 : Int32)), .val (.int (4 : Int32)), .val (.int (0 : Int32)), .unset] [(.int (0 : Int32)), (.ref b)])) (fun _ zk => XS.iloadN X0.here hx rfl (hb hby d7_11) rfl zk) ?_
  refine Go.st (T' := s₁) (g' := (mkF m 13 #[.val (.ref b), .val (.int (0 : Int32)), .val (.ref d), .val (.int (0 : Int32)), .val (.int (4 : Int32)), .val (.int (0 : Int32)), .unset] [(.int c0)])) (fun _ zk => ldCV X0 hx hZ e0 VC (j := (0 : Int32)) ⟨by decide, by decide⟩ (v := (.int c0)) rfl (g := (mkF m 12 #[.val (.ref b), .val (.int (0 : Int32)), .val (.ref d), .val (.int (0 : Int32)), .val (.int (4 : Int32)), .val (.int (0 : Int32)), .unset] [(.int (0 : Int32)), (.ref b)])) rfl (rest := []) rfl (hb hby d7_12) zk) ?_
  refine Go.st (T' := s₁) (g' := (mkF m 15 #[.val (.ref b), .val (.int (0 : Int32)), .val (.ref d), .val (.int (0 : Int32)), .val (.int (4 : Int32)), .val (.int (0 : Int32)), .val (.int c0)] [])) (fun _ zk => XS.istore X0.here hx rfl (hb hby d7_13) rfl (l' := #[.val (.ref b), .val (.int (0 : Int32)), .val (.ref d), .val (.int (0 : Int32)), .val (.int (4 : Int32)), .val (.int (0 : Int32)), .val (.int c0)]) rfl zk) ?_
  refine Go.st (T' := s₁) (g' := (mkF m 17 #[.val (.ref b), .val (.int (0 : Int32)), .val (.ref d), .val (.int (0 : Int32)), .val (.int (4 : Int32)), .val (.int (0 : Int32)), .val (.int c0)] [(.int c0)])) (fun _ zk => XS.iload X0.here hx rfl (hb hby d7_15) rfl zk) ?_
  refine Go.st (T' := s₁) (g' := (mkF m 20 #[.val (.ref b), .val (.int (0 : Int32)), .val (.ref d), .val (.int (0 : Int32)), .val (.int (4 : Int32)), .val (.int (0 : Int32)), .val (.int c0)] [(.int (255 : Int32)), (.int c0)])) (fun _ zk => XS.sipush X0.here hx rfl (hb hby d7_17) zk) ?_
  refine Go.st (T' := s₁) (g' := (mkF m 26 #[.val (.ref b), .val (.int (0 : Int32)), .val (.ref d), .val (.int (0 : Int32)), .val (.int (4 : Int32)), .val (.int (0 : Int32)), .val (.int c0)] [])) (fun _ zk => XS.icmpYes X0.here hx rfl (pc0 := 20) (pc' := 26) rfl (hb hby d7_20) rfl (flt (p0 : ¬ ((255 : Int32) < c0))).2.2.2 (by decide) (by decide) zk) ?_
  refine Go.st (T' := s₁) (g' := (mkF m 27 #[.val (.ref b), .val (.int (0 : Int32)), .val (.ref d), .val (.int (0 : Int32)), .val (.int (4 : Int32)), .val (.int (0 : Int32)), .val (.int c0)] [(.ref d)])) (fun _ zk => XS.aloadN X0.here hx rfl (hb hby d7_26) rfl rfl zk) ?_
  refine Go.st (T' := s₁) (g' := (mkF m 28 #[.val (.ref b), .val (.int (0 : Int32)), .val (.ref d), .val (.int (0 : Int32)), .val (.int (4 : Int32)), .val (.int (0 : Int32)), .val (.int c0)] [(.int (0 : Int32)), (.ref d)])) (fun _ zk => XS.iloadN X0.here hx rfl (hb hby d7_27) rfl zk) ?_
  refine Go.st (T' := s₁) (g' := (mkF m 30 #[.val (.ref b), .val (.int (0 : Int32)), .val (.ref d), .val (.int (0 : Int32)), .val (.int (4 : Int32)), .val (.int (0 : Int32)), .val (.int c0)] [(.int c0), (.int (0 : Int32)), (.ref d)])) (fun _ zk => XS.iload X0.here hx rfl (hb hby d7_28) rfl zk) ?_
  refine Go.st (T' := s₁) (g' := (mkF m 31 #[.val (.ref b), .val (.int (0 : Int32)), .val (.ref d), .val (.int (0 : Int32)), .val (.int (4 : Int32)), .val (.int (0 : Int32)), .val (.int c0)] [(.int (c0.toInt8.toInt32)), (.int (0 : Int32)), (.ref d)])) (fun _ zk => XS.i2b X0.here hx rfl (hb hby d7_30) rfl zk) ?_
  obtain ⟨T1, h1, X1, e1, W1, V1, st1⟩ := stBV X0 hx hZ e0 VB (j := (0 : Int32)) (i := 0) (by decide) rfl (Nat.le_of_ble_eq_true rfl) (g := (mkF m 31 #[.val (.ref b), .val (.int (0 : Int32)), .val (.ref d), .val (.int (0 : Int32)), .val (.int (4 : Int32)), .val (.int (0 : Int32)), .val (.int c0)] [(.int (c0.toInt8.toInt32)), (.int (0 : Int32)), (.ref d)])) rfl rfl (hb hby d7_31)
  rw [nar_b] at V1
  have V1' : Arv Z h1 d kB .byte (4 : Int32) [(.int (c0.toInt8.toInt32)), (.int (0 : Int32)), (.int (0 : Int32)), (.int (0 : Int32))] (.int (0 : Int32)) := V1
  have N1 := Fr.snoc X1 N0 gd
  refine Go.st (T' := T1) (g' := (mkF m 32 #[.val (.ref b), .val (.int (0 : Int32)), .val (.ref d), .val (.int (0 : Int32)), .val (.int (4 : Int32)), .val (.int (0 : Int32)), .val (.int c0)] [])) (fun _ zk => st1 _ zk) ?_
  refine Go.st (T' := T1) (g' := (mkF m 35 #[.val (.ref b), .val (.int ((0 : Int32) + (1 : Int32))), .val (.ref d), .val (.int (0 : Int32)), .val (.int (4 : Int32)), .val (.int (0 : Int32)), .val (.int c0)] [])) (fun _ zk => XS.iinc X1.here hx rfl (hb hby d7_32) rfl (l' := #[.val (.ref b), .val (.int ((0 : Int32) + (1 : Int32))), .val (.ref d), .val (.int (0 : Int32)), .val (.int (4 : Int32)), .val (.int (0 : Int32)), .val (.int c0)]) rfl zk) ?_
  rw [show ((0 : Int32) + (1 : Int32)) = (1 : Int32) from by decide]
  refine Go.st (T' := T1) (g' := (mkF m 38 #[.val (.ref b), .val (.int (1 : Int32)), .val (.ref d), .val (.int ((0 : Int32) + (1 : Int32))), .val (.int (4 : Int32)), .val (.int (0 : Int32)), .val (.int c0)] [])) (fun _ zk => XS.iinc X1.here hx rfl (hb hby d7_35) rfl (l' := #[.val (.ref b), .val (.int (1 : Int32)), .val (.ref d), .val (.int ((0 : Int32) + (1 : Int32))), .val (.int (4 : Int32)), .val (.int (0 : Int32)), .val (.int c0)]) rfl zk) ?_
  rw [show ((0 : Int32) + (1 : Int32)) = (1 : Int32) from by decide]
  refine Go.st (T' := T1) (g' := (mkF m 41 #[.val (.ref b), .val (.int (1 : Int32)), .val (.ref d), .val (.int (1 : Int32)), .val (.int (4 : Int32)), .val (.int ((0 : Int32) + (1 : Int32))), .val (.int c0)] [])) (fun _ zk => XS.iinc X1.here hx rfl (hb hby d7_38) rfl (l' := #[.val (.ref b), .val (.int (1 : Int32)), .val (.ref d), .val (.int (1 : Int32)), .val (.int (4 : Int32)), .val (.int ((0 : Int32) + (1 : Int32))), .val (.int c0)]) rfl zk) ?_
  rw [show ((0 : Int32) + (1 : Int32)) = (1 : Int32) from by decide]
  refine Go.st (T' := T1) (g' := (mkF m 3 #[.val (.ref b), .val (.int (1 : Int32)), .val (.ref d), .val (.int (1 : Int32)), .val (.int (4 : Int32)), .val (.int (1 : Int32)), .val (.int c0)] [])) (fun _ zk => XS.goto X1.here hx rfl (pc0 := 41) (pc' := 3) rfl (hb hby d7_41) (by decide) (by decide) zk) ?_
  refine Go.st (T' := T1) (g' := (mkF m 5 #[.val (.ref b), .val (.int (1 : Int32)), .val (.ref d), .val (.int (1 : Int32)), .val (.int (4 : Int32)), .val (.int (1 : Int32)), .val (.int c0)] [(.int (1 : Int32))])) (fun _ zk => XS.iload X1.here hx rfl (hb hby d7_3) rfl zk) ?_
  refine Go.st (T' := T1) (g' := (mkF m 7 #[.val (.ref b), .val (.int (1 : Int32)), .val (.ref d), .val (.int (1 : Int32)), .val (.int (4 : Int32)), .val (.int (1 : Int32)), .val (.int c0)] [(.int (4 : Int32)), (.int (1 : Int32))])) (fun _ zk => XS.iload X1.here hx rfl (hb hby d7_5) rfl zk) ?_
  refine Go.st (T' := T1) (g' := (mkF m 10 #[.val (.ref b), .val (.int (1 : Int32)), .val (.ref d), .val (.int (1 : Int32)), .val (.int (4 : Int32)), .val (.int (1 : Int32)), .val (.int c0)] [])) (fun _ zk => XS.icmpNo X1.here hx rfl (hb hby d7_7) rfl (tlt ((by decide) : (1 : Int32) < (4 : Int32))).2.1 zk) ?_
  refine Go.st (T' := T1) (g' := (mkF m 11 #[.val (.ref b), .val (.int (1 : Int32)), .val (.ref d), .val (.int (1 : Int32)), .val (.int (4 : Int32)), .val (.int (1 : Int32)), .val (.int c0)] [(.ref b)])) (fun _ zk => XS.aloadN X1.here hx rfl (hb hby d7_10) rfl rfl zk) ?_
  refine Go.st (T' := T1) (g' := (mkF m 12 #[.val (.ref b), .val (.int (1 : Int32)), .val (.ref d), .val (.int (1 : Int32)), .val (.int (4 : Int32)), .val (.int (1 : Int32)), .val (.int c0)] [(.int (1 : Int32)), (.ref b)])) (fun _ zk => XS.iloadN X1.here hx rfl (hb hby d7_11) rfl zk) ?_
  have f2 := (VC.other W1 hbd)
  refine Go.st (T' := T1) (g' := (mkF m 13 #[.val (.ref b), .val (.int (1 : Int32)), .val (.ref d), .val (.int (1 : Int32)), .val (.int (4 : Int32)), .val (.int (1 : Int32)), .val (.int c0)] [(.int c1)])) (fun _ zk => ldCV X1 hx hZ e1 f2 (j := (1 : Int32)) ⟨by decide, by decide⟩ (v := (.int c1)) rfl (g := (mkF m 12 #[.val (.ref b), .val (.int (1 : Int32)), .val (.ref d), .val (.int (1 : Int32)), .val (.int (4 : Int32)), .val (.int (1 : Int32)), .val (.int c0)] [(.int (1 : Int32)), (.ref b)])) rfl (rest := []) rfl (hb hby d7_12) zk) ?_
  refine Go.st (T' := T1) (g' := (mkF m 15 #[.val (.ref b), .val (.int (1 : Int32)), .val (.ref d), .val (.int (1 : Int32)), .val (.int (4 : Int32)), .val (.int (1 : Int32)), .val (.int c1)] [])) (fun _ zk => XS.istore X1.here hx rfl (hb hby d7_13) rfl (l' := #[.val (.ref b), .val (.int (1 : Int32)), .val (.ref d), .val (.int (1 : Int32)), .val (.int (4 : Int32)), .val (.int (1 : Int32)), .val (.int c1)]) rfl zk) ?_
  refine Go.st (T' := T1) (g' := (mkF m 17 #[.val (.ref b), .val (.int (1 : Int32)), .val (.ref d), .val (.int (1 : Int32)), .val (.int (4 : Int32)), .val (.int (1 : Int32)), .val (.int c1)] [(.int c1)])) (fun _ zk => XS.iload X1.here hx rfl (hb hby d7_15) rfl zk) ?_
  refine Go.st (T' := T1) (g' := (mkF m 20 #[.val (.ref b), .val (.int (1 : Int32)), .val (.ref d), .val (.int (1 : Int32)), .val (.int (4 : Int32)), .val (.int (1 : Int32)), .val (.int c1)] [(.int (255 : Int32)), (.int c1)])) (fun _ zk => XS.sipush X1.here hx rfl (hb hby d7_17) zk) ?_
  refine Go.st (T' := T1) (g' := (mkF m 26 #[.val (.ref b), .val (.int (1 : Int32)), .val (.ref d), .val (.int (1 : Int32)), .val (.int (4 : Int32)), .val (.int (1 : Int32)), .val (.int c1)] [])) (fun _ zk => XS.icmpYes X1.here hx rfl (pc0 := 20) (pc' := 26) rfl (hb hby d7_20) rfl (flt (p1 : ¬ ((255 : Int32) < c1))).2.2.2 (by decide) (by decide) zk) ?_
  refine Go.st (T' := T1) (g' := (mkF m 27 #[.val (.ref b), .val (.int (1 : Int32)), .val (.ref d), .val (.int (1 : Int32)), .val (.int (4 : Int32)), .val (.int (1 : Int32)), .val (.int c1)] [(.ref d)])) (fun _ zk => XS.aloadN X1.here hx rfl (hb hby d7_26) rfl rfl zk) ?_
  refine Go.st (T' := T1) (g' := (mkF m 28 #[.val (.ref b), .val (.int (1 : Int32)), .val (.ref d), .val (.int (1 : Int32)), .val (.int (4 : Int32)), .val (.int (1 : Int32)), .val (.int c1)] [(.int (1 : Int32)), (.ref d)])) (fun _ zk => XS.iloadN X1.here hx rfl (hb hby d7_27) rfl zk) ?_
  refine Go.st (T' := T1) (g' := (mkF m 30 #[.val (.ref b), .val (.int (1 : Int32)), .val (.ref d), .val (.int (1 : Int32)), .val (.int (4 : Int32)), .val (.int (1 : Int32)), .val (.int c1)] [(.int c1), (.int (1 : Int32)), (.ref d)])) (fun _ zk => XS.iload X1.here hx rfl (hb hby d7_28) rfl zk) ?_
  refine Go.st (T' := T1) (g' := (mkF m 31 #[.val (.ref b), .val (.int (1 : Int32)), .val (.ref d), .val (.int (1 : Int32)), .val (.int (4 : Int32)), .val (.int (1 : Int32)), .val (.int c1)] [(.int (c1.toInt8.toInt32)), (.int (1 : Int32)), (.ref d)])) (fun _ zk => XS.i2b X1.here hx rfl (hb hby d7_30) rfl zk) ?_
  obtain ⟨T3, h3, X3, e3, W3, V3, st3⟩ := stBV X1 hx hZ e1 V1' (j := (1 : Int32)) (i := 1) (by decide) rfl (Nat.le_of_ble_eq_true rfl) (g := (mkF m 31 #[.val (.ref b), .val (.int (1 : Int32)), .val (.ref d), .val (.int (1 : Int32)), .val (.int (4 : Int32)), .val (.int (1 : Int32)), .val (.int c1)] [(.int (c1.toInt8.toInt32)), (.int (1 : Int32)), (.ref d)])) rfl rfl (hb hby d7_31)
  rw [nar_b] at V3
  have V3' : Arv Z h3 d kB .byte (4 : Int32) [(.int (c0.toInt8.toInt32)), (.int (c1.toInt8.toInt32)), (.int (0 : Int32)), (.int (0 : Int32))] (.int (0 : Int32)) := V3
  have N3 := Fr.snoc X3 N1 gd
  refine Go.st (T' := T3) (g' := (mkF m 32 #[.val (.ref b), .val (.int (1 : Int32)), .val (.ref d), .val (.int (1 : Int32)), .val (.int (4 : Int32)), .val (.int (1 : Int32)), .val (.int c1)] [])) (fun _ zk => st3 _ zk) ?_
  refine Go.st (T' := T3) (g' := (mkF m 35 #[.val (.ref b), .val (.int ((1 : Int32) + (1 : Int32))), .val (.ref d), .val (.int (1 : Int32)), .val (.int (4 : Int32)), .val (.int (1 : Int32)), .val (.int c1)] [])) (fun _ zk => XS.iinc X3.here hx rfl (hb hby d7_32) rfl (l' := #[.val (.ref b), .val (.int ((1 : Int32) + (1 : Int32))), .val (.ref d), .val (.int (1 : Int32)), .val (.int (4 : Int32)), .val (.int (1 : Int32)), .val (.int c1)]) rfl zk) ?_
  rw [show ((1 : Int32) + (1 : Int32)) = (2 : Int32) from by decide]
  refine Go.st (T' := T3) (g' := (mkF m 38 #[.val (.ref b), .val (.int (2 : Int32)), .val (.ref d), .val (.int ((1 : Int32) + (1 : Int32))), .val (.int (4 : Int32)), .val (.int (1 : Int32)), .val (.int c1)] [])) (fun _ zk => XS.iinc X3.here hx rfl (hb hby d7_35) rfl (l' := #[.val (.ref b), .val (.int (2 : Int32)), .val (.ref d), .val (.int ((1 : Int32) + (1 : Int32))), .val (.int (4 : Int32)), .val (.int (1 : Int32)), .val (.int c1)]) rfl zk) ?_
  rw [show ((1 : Int32) + (1 : Int32)) = (2 : Int32) from by decide]
  refine Go.st (T' := T3) (g' := (mkF m 41 #[.val (.ref b), .val (.int (2 : Int32)), .val (.ref d), .val (.int (2 : Int32)), .val (.int (4 : Int32)), .val (.int ((1 : Int32) + (1 : Int32))), .val (.int c1)] [])) (fun _ zk => XS.iinc X3.here hx rfl (hb hby d7_38) rfl (l' := #[.val (.ref b), .val (.int (2 : Int32)), .val (.ref d), .val (.int (2 : Int32)), .val (.int (4 : Int32)), .val (.int ((1 : Int32) + (1 : Int32))), .val (.int c1)]) rfl zk) ?_
  rw [show ((1 : Int32) + (1 : Int32)) = (2 : Int32) from by decide]
  refine Go.st (T' := T3) (g' := (mkF m 3 #[.val (.ref b), .val (.int (2 : Int32)), .val (.ref d), .val (.int (2 : Int32)), .val (.int (4 : Int32)), .val (.int (2 : Int32)), .val (.int c1)] [])) (fun _ zk => XS.goto X3.here hx rfl (pc0 := 41) (pc' := 3) rfl (hb hby d7_41) (by decide) (by decide) zk) ?_
  refine Go.st (T' := T3) (g' := (mkF m 5 #[.val (.ref b), .val (.int (2 : Int32)), .val (.ref d), .val (.int (2 : Int32)), .val (.int (4 : Int32)), .val (.int (2 : Int32)), .val (.int c1)] [(.int (2 : Int32))])) (fun _ zk => XS.iload X3.here hx rfl (hb hby d7_3) rfl zk) ?_
  refine Go.st (T' := T3) (g' := (mkF m 7 #[.val (.ref b), .val (.int (2 : Int32)), .val (.ref d), .val (.int (2 : Int32)), .val (.int (4 : Int32)), .val (.int (2 : Int32)), .val (.int c1)] [(.int (4 : Int32)), (.int (2 : Int32))])) (fun _ zk => XS.iload X3.here hx rfl (hb hby d7_5) rfl zk) ?_
  refine Go.st (T' := T3) (g' := (mkF m 10 #[.val (.ref b), .val (.int (2 : Int32)), .val (.ref d), .val (.int (2 : Int32)), .val (.int (4 : Int32)), .val (.int (2 : Int32)), .val (.int c1)] [])) (fun _ zk => XS.icmpNo X3.here hx rfl (hb hby d7_7) rfl (tlt ((by decide) : (2 : Int32) < (4 : Int32))).2.1 zk) ?_
  refine Go.st (T' := T3) (g' := (mkF m 11 #[.val (.ref b), .val (.int (2 : Int32)), .val (.ref d), .val (.int (2 : Int32)), .val (.int (4 : Int32)), .val (.int (2 : Int32)), .val (.int c1)] [(.ref b)])) (fun _ zk => XS.aloadN X3.here hx rfl (hb hby d7_10) rfl rfl zk) ?_
  refine Go.st (T' := T3) (g' := (mkF m 12 #[.val (.ref b), .val (.int (2 : Int32)), .val (.ref d), .val (.int (2 : Int32)), .val (.int (4 : Int32)), .val (.int (2 : Int32)), .val (.int c1)] [(.int (2 : Int32)), (.ref b)])) (fun _ zk => XS.iloadN X3.here hx rfl (hb hby d7_11) rfl zk) ?_
  have f4 := (f2.other W3 hbd)
  refine Go.st (T' := T3) (g' := (mkF m 13 #[.val (.ref b), .val (.int (2 : Int32)), .val (.ref d), .val (.int (2 : Int32)), .val (.int (4 : Int32)), .val (.int (2 : Int32)), .val (.int c1)] [(.int c2)])) (fun _ zk => ldCV X3 hx hZ e3 f4 (j := (2 : Int32)) ⟨by decide, by decide⟩ (v := (.int c2)) rfl (g := (mkF m 12 #[.val (.ref b), .val (.int (2 : Int32)), .val (.ref d), .val (.int (2 : Int32)), .val (.int (4 : Int32)), .val (.int (2 : Int32)), .val (.int c1)] [(.int (2 : Int32)), (.ref b)])) rfl (rest := []) rfl (hb hby d7_12) zk) ?_
  refine Go.st (T' := T3) (g' := (mkF m 15 #[.val (.ref b), .val (.int (2 : Int32)), .val (.ref d), .val (.int (2 : Int32)), .val (.int (4 : Int32)), .val (.int (2 : Int32)), .val (.int c2)] [])) (fun _ zk => XS.istore X3.here hx rfl (hb hby d7_13) rfl (l' := #[.val (.ref b), .val (.int (2 : Int32)), .val (.ref d), .val (.int (2 : Int32)), .val (.int (4 : Int32)), .val (.int (2 : Int32)), .val (.int c2)]) rfl zk) ?_
  refine Go.st (T' := T3) (g' := (mkF m 17 #[.val (.ref b), .val (.int (2 : Int32)), .val (.ref d), .val (.int (2 : Int32)), .val (.int (4 : Int32)), .val (.int (2 : Int32)), .val (.int c2)] [(.int c2)])) (fun _ zk => XS.iload X3.here hx rfl (hb hby d7_15) rfl zk) ?_
  refine Go.st (T' := T3) (g' := (mkF m 20 #[.val (.ref b), .val (.int (2 : Int32)), .val (.ref d), .val (.int (2 : Int32)), .val (.int (4 : Int32)), .val (.int (2 : Int32)), .val (.int c2)] [(.int (255 : Int32)), (.int c2)])) (fun _ zk => XS.sipush X3.here hx rfl (hb hby d7_17) zk) ?_
  refine Go.st (T' := T3) (g' := (mkF m 26 #[.val (.ref b), .val (.int (2 : Int32)), .val (.ref d), .val (.int (2 : Int32)), .val (.int (4 : Int32)), .val (.int (2 : Int32)), .val (.int c2)] [])) (fun _ zk => XS.icmpYes X3.here hx rfl (pc0 := 20) (pc' := 26) rfl (hb hby d7_20) rfl (flt (p2 : ¬ ((255 : Int32) < c2))).2.2.2 (by decide) (by decide) zk) ?_
  refine Go.st (T' := T3) (g' := (mkF m 27 #[.val (.ref b), .val (.int (2 : Int32)), .val (.ref d), .val (.int (2 : Int32)), .val (.int (4 : Int32)), .val (.int (2 : Int32)), .val (.int c2)] [(.ref d)])) (fun _ zk => XS.aloadN X3.here hx rfl (hb hby d7_26) rfl rfl zk) ?_
  refine Go.st (T' := T3) (g' := (mkF m 28 #[.val (.ref b), .val (.int (2 : Int32)), .val (.ref d), .val (.int (2 : Int32)), .val (.int (4 : Int32)), .val (.int (2 : Int32)), .val (.int c2)] [(.int (2 : Int32)), (.ref d)])) (fun _ zk => XS.iloadN X3.here hx rfl (hb hby d7_27) rfl zk) ?_
  refine Go.st (T' := T3) (g' := (mkF m 30 #[.val (.ref b), .val (.int (2 : Int32)), .val (.ref d), .val (.int (2 : Int32)), .val (.int (4 : Int32)), .val (.int (2 : Int32)), .val (.int c2)] [(.int c2), (.int (2 : Int32)), (.ref d)])) (fun _ zk => XS.iload X3.here hx rfl (hb hby d7_28) rfl zk) ?_
  refine Go.st (T' := T3) (g' := (mkF m 31 #[.val (.ref b), .val (.int (2 : Int32)), .val (.ref d), .val (.int (2 : Int32)), .val (.int (4 : Int32)), .val (.int (2 : Int32)), .val (.int c2)] [(.int (c2.toInt8.toInt32)), (.int (2 : Int32)), (.ref d)])) (fun _ zk => XS.i2b X3.here hx rfl (hb hby d7_30) rfl zk) ?_
  obtain ⟨T5, h5, X5, e5, W5, V5, st5⟩ := stBV X3 hx hZ e3 V3' (j := (2 : Int32)) (i := 2) (by decide) rfl (Nat.le_of_ble_eq_true rfl) (g := (mkF m 31 #[.val (.ref b), .val (.int (2 : Int32)), .val (.ref d), .val (.int (2 : Int32)), .val (.int (4 : Int32)), .val (.int (2 : Int32)), .val (.int c2)] [(.int (c2.toInt8.toInt32)), (.int (2 : Int32)), (.ref d)])) rfl rfl (hb hby d7_31)
  rw [nar_b] at V5
  have V5' : Arv Z h5 d kB .byte (4 : Int32) [(.int (c0.toInt8.toInt32)), (.int (c1.toInt8.toInt32)), (.int (c2.toInt8.toInt32)), (.int (0 : Int32))] (.int (0 : Int32)) := V5
  have N5 := Fr.snoc X5 N3 gd
  refine Go.st (T' := T5) (g' := (mkF m 32 #[.val (.ref b), .val (.int (2 : Int32)), .val (.ref d), .val (.int (2 : Int32)), .val (.int (4 : Int32)), .val (.int (2 : Int32)), .val (.int c2)] [])) (fun _ zk => st5 _ zk) ?_
  refine Go.st (T' := T5) (g' := (mkF m 35 #[.val (.ref b), .val (.int ((2 : Int32) + (1 : Int32))), .val (.ref d), .val (.int (2 : Int32)), .val (.int (4 : Int32)), .val (.int (2 : Int32)), .val (.int c2)] [])) (fun _ zk => XS.iinc X5.here hx rfl (hb hby d7_32) rfl (l' := #[.val (.ref b), .val (.int ((2 : Int32) + (1 : Int32))), .val (.ref d), .val (.int (2 : Int32)), .val (.int (4 : Int32)), .val (.int (2 : Int32)), .val (.int c2)]) rfl zk) ?_
  rw [show ((2 : Int32) + (1 : Int32)) = (3 : Int32) from by decide]
  refine Go.st (T' := T5) (g' := (mkF m 38 #[.val (.ref b), .val (.int (3 : Int32)), .val (.ref d), .val (.int ((2 : Int32) + (1 : Int32))), .val (.int (4 : Int32)), .val (.int (2 : Int32)), .val (.int c2)] [])) (fun _ zk => XS.iinc X5.here hx rfl (hb hby d7_35) rfl (l' := #[.val (.ref b), .val (.int (3 : Int32)), .val (.ref d), .val (.int ((2 : Int32) + (1 : Int32))), .val (.int (4 : Int32)), .val (.int (2 : Int32)), .val (.int c2)]) rfl zk) ?_
  rw [show ((2 : Int32) + (1 : Int32)) = (3 : Int32) from by decide]
  refine Go.st (T' := T5) (g' := (mkF m 41 #[.val (.ref b), .val (.int (3 : Int32)), .val (.ref d), .val (.int (3 : Int32)), .val (.int (4 : Int32)), .val (.int ((2 : Int32) + (1 : Int32))), .val (.int c2)] [])) (fun _ zk => XS.iinc X5.here hx rfl (hb hby d7_38) rfl (l' := #[.val (.ref b), .val (.int (3 : Int32)), .val (.ref d), .val (.int (3 : Int32)), .val (.int (4 : Int32)), .val (.int ((2 : Int32) + (1 : Int32))), .val (.int c2)]) rfl zk) ?_
  rw [show ((2 : Int32) + (1 : Int32)) = (3 : Int32) from by decide]
  refine Go.st (T' := T5) (g' := (mkF m 3 #[.val (.ref b), .val (.int (3 : Int32)), .val (.ref d), .val (.int (3 : Int32)), .val (.int (4 : Int32)), .val (.int (3 : Int32)), .val (.int c2)] [])) (fun _ zk => XS.goto X5.here hx rfl (pc0 := 41) (pc' := 3) rfl (hb hby d7_41) (by decide) (by decide) zk) ?_
  refine Go.st (T' := T5) (g' := (mkF m 5 #[.val (.ref b), .val (.int (3 : Int32)), .val (.ref d), .val (.int (3 : Int32)), .val (.int (4 : Int32)), .val (.int (3 : Int32)), .val (.int c2)] [(.int (3 : Int32))])) (fun _ zk => XS.iload X5.here hx rfl (hb hby d7_3) rfl zk) ?_
  refine Go.st (T' := T5) (g' := (mkF m 7 #[.val (.ref b), .val (.int (3 : Int32)), .val (.ref d), .val (.int (3 : Int32)), .val (.int (4 : Int32)), .val (.int (3 : Int32)), .val (.int c2)] [(.int (4 : Int32)), (.int (3 : Int32))])) (fun _ zk => XS.iload X5.here hx rfl (hb hby d7_5) rfl zk) ?_
  refine Go.st (T' := T5) (g' := (mkF m 10 #[.val (.ref b), .val (.int (3 : Int32)), .val (.ref d), .val (.int (3 : Int32)), .val (.int (4 : Int32)), .val (.int (3 : Int32)), .val (.int c2)] [])) (fun _ zk => XS.icmpNo X5.here hx rfl (hb hby d7_7) rfl (tlt ((by decide) : (3 : Int32) < (4 : Int32))).2.1 zk) ?_
  refine Go.st (T' := T5) (g' := (mkF m 11 #[.val (.ref b), .val (.int (3 : Int32)), .val (.ref d), .val (.int (3 : Int32)), .val (.int (4 : Int32)), .val (.int (3 : Int32)), .val (.int c2)] [(.ref b)])) (fun _ zk => XS.aloadN X5.here hx rfl (hb hby d7_10) rfl rfl zk) ?_
  refine Go.st (T' := T5) (g' := (mkF m 12 #[.val (.ref b), .val (.int (3 : Int32)), .val (.ref d), .val (.int (3 : Int32)), .val (.int (4 : Int32)), .val (.int (3 : Int32)), .val (.int c2)] [(.int (3 : Int32)), (.ref b)])) (fun _ zk => XS.iloadN X5.here hx rfl (hb hby d7_11) rfl zk) ?_
  have f6 := (f4.other W5 hbd)
  refine Go.st (T' := T5) (g' := (mkF m 13 #[.val (.ref b), .val (.int (3 : Int32)), .val (.ref d), .val (.int (3 : Int32)), .val (.int (4 : Int32)), .val (.int (3 : Int32)), .val (.int c2)] [(.int c3)])) (fun _ zk => ldCV X5 hx hZ e5 f6 (j := (3 : Int32)) ⟨by decide, by decide⟩ (v := (.int c3)) rfl (g := (mkF m 12 #[.val (.ref b), .val (.int (3 : Int32)), .val (.ref d), .val (.int (3 : Int32)), .val (.int (4 : Int32)), .val (.int (3 : Int32)), .val (.int c2)] [(.int (3 : Int32)), (.ref b)])) rfl (rest := []) rfl (hb hby d7_12) zk) ?_
  refine Go.st (T' := T5) (g' := (mkF m 15 #[.val (.ref b), .val (.int (3 : Int32)), .val (.ref d), .val (.int (3 : Int32)), .val (.int (4 : Int32)), .val (.int (3 : Int32)), .val (.int c3)] [])) (fun _ zk => XS.istore X5.here hx rfl (hb hby d7_13) rfl (l' := #[.val (.ref b), .val (.int (3 : Int32)), .val (.ref d), .val (.int (3 : Int32)), .val (.int (4 : Int32)), .val (.int (3 : Int32)), .val (.int c3)]) rfl zk) ?_
  refine Go.st (T' := T5) (g' := (mkF m 17 #[.val (.ref b), .val (.int (3 : Int32)), .val (.ref d), .val (.int (3 : Int32)), .val (.int (4 : Int32)), .val (.int (3 : Int32)), .val (.int c3)] [(.int c3)])) (fun _ zk => XS.iload X5.here hx rfl (hb hby d7_15) rfl zk) ?_
  refine Go.st (T' := T5) (g' := (mkF m 20 #[.val (.ref b), .val (.int (3 : Int32)), .val (.ref d), .val (.int (3 : Int32)), .val (.int (4 : Int32)), .val (.int (3 : Int32)), .val (.int c3)] [(.int (255 : Int32)), (.int c3)])) (fun _ zk => XS.sipush X5.here hx rfl (hb hby d7_17) zk) ?_
  refine Go.st (T' := T5) (g' := (mkF m 26 #[.val (.ref b), .val (.int (3 : Int32)), .val (.ref d), .val (.int (3 : Int32)), .val (.int (4 : Int32)), .val (.int (3 : Int32)), .val (.int c3)] [])) (fun _ zk => XS.icmpYes X5.here hx rfl (pc0 := 20) (pc' := 26) rfl (hb hby d7_20) rfl (flt (p3 : ¬ ((255 : Int32) < c3))).2.2.2 (by decide) (by decide) zk) ?_
  refine Go.st (T' := T5) (g' := (mkF m 27 #[.val (.ref b), .val (.int (3 : Int32)), .val (.ref d), .val (.int (3 : Int32)), .val (.int (4 : Int32)), .val (.int (3 : Int32)), .val (.int c3)] [(.ref d)])) (fun _ zk => XS.aloadN X5.here hx rfl (hb hby d7_26) rfl rfl zk) ?_
  refine Go.st (T' := T5) (g' := (mkF m 28 #[.val (.ref b), .val (.int (3 : Int32)), .val (.ref d), .val (.int (3 : Int32)), .val (.int (4 : Int32)), .val (.int (3 : Int32)), .val (.int c3)] [(.int (3 : Int32)), (.ref d)])) (fun _ zk => XS.iloadN X5.here hx rfl (hb hby d7_27) rfl zk) ?_
  refine Go.st (T' := T5) (g' := (mkF m 30 #[.val (.ref b), .val (.int (3 : Int32)), .val (.ref d), .val (.int (3 : Int32)), .val (.int (4 : Int32)), .val (.int (3 : Int32)), .val (.int c3)] [(.int c3), (.int (3 : Int32)), (.ref d)])) (fun _ zk => XS.iload X5.here hx rfl (hb hby d7_28) rfl zk) ?_
  refine Go.st (T' := T5) (g' := (mkF m 31 #[.val (.ref b), .val (.int (3 : Int32)), .val (.ref d), .val (.int (3 : Int32)), .val (.int (4 : Int32)), .val (.int (3 : Int32)), .val (.int c3)] [(.int (c3.toInt8.toInt32)), (.int (3 : Int32)), (.ref d)])) (fun _ zk => XS.i2b X5.here hx rfl (hb hby d7_30) rfl zk) ?_
  obtain ⟨T7, h7, X7, e7, W7, V7, st7⟩ := stBV X5 hx hZ e5 V5' (j := (3 : Int32)) (i := 3) (by decide) rfl (Nat.le_of_ble_eq_true rfl) (g := (mkF m 31 #[.val (.ref b), .val (.int (3 : Int32)), .val (.ref d), .val (.int (3 : Int32)), .val (.int (4 : Int32)), .val (.int (3 : Int32)), .val (.int c3)] [(.int (c3.toInt8.toInt32)), (.int (3 : Int32)), (.ref d)])) rfl rfl (hb hby d7_31)
  rw [nar_b] at V7
  have V7' : Arv Z h7 d kB .byte (4 : Int32) [(.int (c0.toInt8.toInt32)), (.int (c1.toInt8.toInt32)), (.int (c2.toInt8.toInt32)), (.int (c3.toInt8.toInt32))] (.int (0 : Int32)) := V7
  have N7 := Fr.snoc X7 N5 gd
  refine Go.st (T' := T7) (g' := (mkF m 32 #[.val (.ref b), .val (.int (3 : Int32)), .val (.ref d), .val (.int (3 : Int32)), .val (.int (4 : Int32)), .val (.int (3 : Int32)), .val (.int c3)] [])) (fun _ zk => st7 _ zk) ?_
  refine Go.st (T' := T7) (g' := (mkF m 35 #[.val (.ref b), .val (.int ((3 : Int32) + (1 : Int32))), .val (.ref d), .val (.int (3 : Int32)), .val (.int (4 : Int32)), .val (.int (3 : Int32)), .val (.int c3)] [])) (fun _ zk => XS.iinc X7.here hx rfl (hb hby d7_32) rfl (l' := #[.val (.ref b), .val (.int ((3 : Int32) + (1 : Int32))), .val (.ref d), .val (.int (3 : Int32)), .val (.int (4 : Int32)), .val (.int (3 : Int32)), .val (.int c3)]) rfl zk) ?_
  rw [show ((3 : Int32) + (1 : Int32)) = (4 : Int32) from by decide]
  refine Go.st (T' := T7) (g' := (mkF m 38 #[.val (.ref b), .val (.int (4 : Int32)), .val (.ref d), .val (.int ((3 : Int32) + (1 : Int32))), .val (.int (4 : Int32)), .val (.int (3 : Int32)), .val (.int c3)] [])) (fun _ zk => XS.iinc X7.here hx rfl (hb hby d7_35) rfl (l' := #[.val (.ref b), .val (.int (4 : Int32)), .val (.ref d), .val (.int ((3 : Int32) + (1 : Int32))), .val (.int (4 : Int32)), .val (.int (3 : Int32)), .val (.int c3)]) rfl zk) ?_
  rw [show ((3 : Int32) + (1 : Int32)) = (4 : Int32) from by decide]
  refine Go.st (T' := T7) (g' := (mkF m 41 #[.val (.ref b), .val (.int (4 : Int32)), .val (.ref d), .val (.int (4 : Int32)), .val (.int (4 : Int32)), .val (.int ((3 : Int32) + (1 : Int32))), .val (.int c3)] [])) (fun _ zk => XS.iinc X7.here hx rfl (hb hby d7_38) rfl (l' := #[.val (.ref b), .val (.int (4 : Int32)), .val (.ref d), .val (.int (4 : Int32)), .val (.int (4 : Int32)), .val (.int ((3 : Int32) + (1 : Int32))), .val (.int c3)]) rfl zk) ?_
  rw [show ((3 : Int32) + (1 : Int32)) = (4 : Int32) from by decide]
  refine Go.st (T' := T7) (g' := (mkF m 3 #[.val (.ref b), .val (.int (4 : Int32)), .val (.ref d), .val (.int (4 : Int32)), .val (.int (4 : Int32)), .val (.int (4 : Int32)), .val (.int c3)] [])) (fun _ zk => XS.goto X7.here hx rfl (pc0 := 41) (pc' := 3) rfl (hb hby d7_41) (by decide) (by decide) zk) ?_
  refine Go.st (T' := T7) (g' := (mkF m 5 #[.val (.ref b), .val (.int (4 : Int32)), .val (.ref d), .val (.int (4 : Int32)), .val (.int (4 : Int32)), .val (.int (4 : Int32)), .val (.int c3)] [(.int (4 : Int32))])) (fun _ zk => XS.iload X7.here hx rfl (hb hby d7_3) rfl zk) ?_
  refine Go.st (T' := T7) (g' := (mkF m 7 #[.val (.ref b), .val (.int (4 : Int32)), .val (.ref d), .val (.int (4 : Int32)), .val (.int (4 : Int32)), .val (.int (4 : Int32)), .val (.int c3)] [(.int (4 : Int32)), (.int (4 : Int32))])) (fun _ zk => XS.iload X7.here hx rfl (hb hby d7_5) rfl zk) ?_
  refine Go.st (T' := T7) (g' := (mkF m 44 #[.val (.ref b), .val (.int (4 : Int32)), .val (.ref d), .val (.int (4 : Int32)), .val (.int (4 : Int32)), .val (.int (4 : Int32)), .val (.int c3)] [])) (fun _ zk => XS.icmpYes X7.here hx rfl (pc0 := 7) (pc' := 44) rfl (hb hby d7_7) rfl (flt ((by decide) : ¬ ((4 : Int32) < (4 : Int32)))).2.1 (by decide) (by decide) zk) ?_
  refine Go.st (T' := T7) (g' := (mkF m 46 #[.val (.ref b), .val (.int (4 : Int32)), .val (.ref d), .val (.int (4 : Int32)), .val (.int (4 : Int32)), .val (.int (4 : Int32)), .val (.int c3)] [(.int (4 : Int32))])) (fun _ zk => XS.iload X7.here hx rfl (hb hby d7_44) rfl zk) ?_
  refine Go.retN X7 hx hlk hret rfl (by simp) (hb hby d7_46) (by decide) (by decide) e7 ?_
  exact ⟨rfl, N7, (((((Keep.refl h0 [d]).wr W1 (Or.inl (List.mem_of_getElem? (i := 0) rfl))).wr W3 (Or.inl (List.mem_of_getElem? (i := 0) rfl))).wr W5 (Or.inl (List.mem_of_getElem? (i := 0) rfl))).wr W7 (Or.inl (List.mem_of_getElem? (i := 0) rfl))), V7'⟩
theorem d6_0 : decode jdk_52_method_16_code 0 = .ok (.iload_n 2, 1) := by decide +kernel
theorem d6_1 : decode jdk_52_method_16_code 1 = .ok (.newarray .byte, 2) := by decide +kernel
theorem w31 {a0 : Array Value} {Z : State} (hw : ∀ d ∈ tables_1, d.before a0 Z = true) : ((Jvm.Cond.arrayClass Jvm.ClassFile.FieldType.byte)).before a0 Z = true := hw _ (List.mem_of_getElem? (i := 31) rfl)
theorem d6_3 : decode jdk_52_method_16_code 3 = .ok (.astore_n 3, 1) := by decide +kernel
theorem d6_4 : decode jdk_52_method_16_code 4 = .ok (.aload_n 0, 1) := by decide +kernel
theorem d6_5 : decode jdk_52_method_16_code 5 = .ok (.iload_n 1, 1) := by decide +kernel
theorem d6_6 : decode jdk_52_method_16_code 6 = .ok (.aload_n 3, 1) := by decide +kernel
theorem d6_7 : decode jdk_52_method_16_code 7 = .ok (.iconst 0, 1) := by decide +kernel
theorem d6_8 : decode jdk_52_method_16_code 8 = .ok (.iload_n 2, 1) := by decide +kernel
theorem w34 {a0 : Array Value} {Z : State} (hw : ∀ d ∈ tables_1, d.before a0 Z = true) : ((Jvm.Cond.code ({ cls := "java/lang/StringUTF16", name := "compress", desc := "([CI[BII)I" } : Jvm.MethodName) jdk_52_method_21_code (7 : Nat) (Option.some Jvm.ClassFile.FieldType.int))).before a0 Z = true := hw _ (List.mem_of_getElem? (i := 34) rfl)
theorem w29 {a0 : Array Value} {Z : State} (hw : ∀ d ∈ tables_1, d.before a0 Z = true) : ((Jvm.Cond.initialized "java/lang/StringUTF16")).before a0 Z = true := hw _ (List.mem_of_getElem? (i := 29) rfl)
theorem pd2 : parseMethodDescriptor "([CI[BII)I" = some ⟨[(.array .char), .int, (.array .byte), .int, .int], some .int⟩ := by decide +kernel
theorem d6_9 : decode jdk_52_method_16_code 9 = .ok (.invokestatic 115, 3) := by decide +kernel
theorem w32 {a0 : Array Value} {Z : State} (hw : ∀ d ∈ tables_1, d.before a0 Z = true) : ((Jvm.Cond.methodLink "java/lang/StringUTF16" (115 : Nat) ({ cls := "java/lang/StringUTF16", name := "compress", desc := "([CI[BII)I" } : Jvm.MethodName))).before a0 Z = true := hw _ (List.mem_of_getElem? (i := 32) rfl)
theorem w33 {a0 : Array Value} {Z : State} (hw : ∀ d ∈ tables_1, d.before a0 Z = true) : ((Jvm.Cond.static ({ cls := "java/lang/StringUTF16", name := "compress", desc := "([CI[BII)I" } : Jvm.MethodName))).before a0 Z = true := hw _ (List.mem_of_getElem? (i := 33) rfl)
theorem d6_12 : decode jdk_52_method_16_code 12 = .ok (.istore 4, 2) := by decide +kernel
theorem d6_14 : decode jdk_52_method_16_code 14 = .ok (.iload 4, 2) := by decide +kernel
theorem d6_16 : decode jdk_52_method_16_code 16 = .ok (.iload_n 2, 1) := by decide +kernel
theorem d6_17 : decode jdk_52_method_16_code 17 = .ok (.if_icmp .eq 40, 3) := by decide +kernel
theorem d6_57 : decode jdk_52_method_16_code 57 = .ok (.aload_n 3, 1) := by decide +kernel
theorem d6_58 : decode jdk_52_method_16_code 58 = .ok (.areturn, 1) := by decide +kernel
def rr_cmp3_4 : Room := { frames := 1, cells := 1, slots := 4, locals := 18 }
set_option maxRecDepth 65536 in
set_option maxHeartbeats 40000000 in
theorem rm_cmp3_4 (l : Launch) (Z : State) (a0 : Array Value) (hw : ∀ d ∈ tables_1, d.before a0 Z = true) (ws : List Jvm.Cond) (b : Addr) (kC : ClassId) (c0 c1 c2 c3 : Int32) (h0 : Heap) (n0 : Nat) (Z0 : n0 ≤ h0.size) (VC : Arv Z h0 b kC .char (4 : Int32) [(.int c0), (.int c1), (.int c2), (.int c3)] (.int (0 : Int32))) (p0 : ¬ (255 : Int32) < c0) (p1 : ¬ (255 : Int32) < c1) (p2 : ¬ (255 : Int32) < c2) (p3 : ¬ (255 : Int32) < c3) :
    Con l Z (⟨"java/lang/StringUTF16", "compress", "([CII)[B"⟩ : MethodName) jdk_52_method_16_code 6 (some (.array .byte)) ws rr_cmp3_4 #[(.ref b), (.int (0 : Int32)), (.int (4 : Int32))] h0 (fun v h L => ∃ (t : Addr) (k : ClassId), v = some (.ref t) ∧ Fr n0 L ∧ Ext h0 h ∧ h0.size ≤ t ∧ Arv Z h t k .byte (4 : Int32) [(.int (c0.toInt8.toInt32)), (.int (c1.toInt8.toInt32)), (.int (c2.toInt8.toInt32)), (.int (c3.toInt8.toInt32))] (.int (0 : Int32))) := by
  refine Con.enter (plainFor_of_name pn1) ?_
  intro p e s m below meth c s₁ X0 hx hZ hby hml hret hlk hown hnm e0
  have N0 := Fr.nil n0
  refine Go.cast (g' := (mkF m 0 #[.val (.ref b), .val (.int (0 : Int32)), .val (.int (4 : Int32)), .unset, .unset, .unset] [])) (by first | rfl | (simp [entryFrame, mkF, argsToLocals, Value.category]; done)) ?_
  refine Go.st (T' := s₁) (g' := (mkF m 1 #[.val (.ref b), .val (.int (0 : Int32)), .val (.int (4 : Int32)), .unset, .unset, .unset] [(.int (4 : Int32))])) (fun _ zk => XS.iloadN X0.here hx rfl (hb hby d6_0) rfl zk) ?_
  obtain ⟨T1, h1, k1, X1, e1, E1, A1, st1⟩ := newP (aty := .byte) X0 hx hZ (w31 hw) e0 (g := (mkF m 1 #[.val (.ref b), .val (.int (0 : Int32)), .val (.int (4 : Int32)), .unset, .unset, .unset] [(.int (4 : Int32))])) rfl (hb hby d6_1) rfl (by decide) (cap := 4) (by decide) (by decide) (by decide) (by decide)
  obtain ⟨b1, g1⟩ : ∃ z, z = h0.size := ⟨_, rfl⟩
  rw [← g1] at A1 st1
  have V1 : Arv Z h1 b1 k1 .byte (4 : Int32) [(.int (0 : Int32)), (.int (0 : Int32)), (.int (0 : Int32)), (.int (0 : Int32))] (.int (0 : Int32)) := (Arv.new A1 (by decide)).pad (pad_rep [] (.int (0 : Int32)) 4)
  refine Go.st (T' := T1) (g' := (mkF m 3 #[.val (.ref b), .val (.int (0 : Int32)), .val (.int (4 : Int32)), .unset, .unset, .unset] [(.ref b1)])) (fun _ zk => st1 _ zk) ?_
  refine Go.st (T' := T1) (g' := (mkF m 4 #[.val (.ref b), .val (.int (0 : Int32)), .val (.int (4 : Int32)), .val (.ref b1), .unset, .unset] [])) (fun _ zk => XS.astoreN X1.here hx rfl (hb hby d6_3) rfl rfl (l' := #[.val (.ref b), .val (.int (0 : Int32)), .val (.int (4 : Int32)), .val (.ref b1), .unset, .unset]) rfl zk) ?_
  refine Go.st (T' := T1) (g' := (mkF m 5 #[.val (.ref b), .val (.int (0 : Int32)), .val (.int (4 : Int32)), .val (.ref b1), .unset, .unset] [(.ref b)])) (fun _ zk => XS.aloadN X1.here hx rfl (hb hby d6_4) rfl rfl zk) ?_
  refine Go.st (T' := T1) (g' := (mkF m 6 #[.val (.ref b), .val (.int (0 : Int32)), .val (.int (4 : Int32)), .val (.ref b1), .unset, .unset] [(.int (0 : Int32)), (.ref b)])) (fun _ zk => XS.iloadN X1.here hx rfl (hb hby d6_5) rfl zk) ?_
  refine Go.st (T' := T1) (g' := (mkF m 7 #[.val (.ref b), .val (.int (0 : Int32)), .val (.int (4 : Int32)), .val (.ref b1), .unset, .unset] [(.ref b1), (.int (0 : Int32)), (.ref b)])) (fun _ zk => XS.aloadN X1.here hx rfl (hb hby d6_6) rfl rfl zk) ?_
  refine Go.st (T' := T1) (g' := (mkF m 8 #[.val (.ref b), .val (.int (0 : Int32)), .val (.int (4 : Int32)), .val (.ref b1), .unset, .unset] [(.int (0 : Int32)), (.ref b1), (.int (0 : Int32)), (.ref b)])) (fun _ zk => XS.iconst X1.here hx rfl (hb hby d6_7) zk) ?_
  refine Go.st (T' := T1) (g' := (mkF m 9 #[.val (.ref b), .val (.int (0 : Int32)), .val (.int (4 : Int32)), .val (.ref b1), .unset, .unset] [(.int (4 : Int32)), (.int (0 : Int32)), (.ref b1), (.int (0 : Int32)), (.ref b)])) (fun _ zk => XS.iloadN X1.here hx rfl (hb hby d6_8) rfl zk) ?_
  have xt2 : Ext h0 h1 := E1
  have f3 := VC.ext xt2
  refine Go.callSt (y := (⟨"java/lang/StringUTF16", "compress", "([CI[BII)I"⟩ : MethodName)) X1 hx hZ hown e1 (w32 hw) (w33 hw) (w29 hw) (w34 hw) (by decide) (argsL := [(.ref b), (.int (0 : Int32)), (.ref b1), (.int (0 : Int32)), (.int (4 : Int32))]) (rest := []) (W := 0) (rm_cmp5_4 l Z a0 hw [] b b1 kC k1 c0 c1 c2 c3 h1 n0 (Nat.le_trans Z0 E1.1) f3 V1 (ne_lt VC.lt (Nat.le_refl _) (Nat.le_of_eq g1.symm)) (Nat.le_trans Z0 (Nat.le_trans (Nat.le_refl _) (Nat.le_of_eq g1.symm))) p0 p1 p2 p3) rfl (lenOf pd2 rfl) rfl (by rw [hml]; rfl) rfl (by show 2 * 0 + _ ≤ _; exact Nat.le_of_eq rfl) (by decide) (by decide) (by decide) (by decide) (hb hby d6_9) ?_
  intro v4 T4 h4 L4 X4 e4 q4
  obtain ⟨hv4, Nf4, K4, V4⟩ := q4
  subst hv4
  have N4 := Fr.app N0 Nf4
  show Go p.tables e below _ T4 (mkF m 12 #[.val (.ref b), .val (.int (0 : Int32)), .val (.int (4 : Int32)), .val (.ref b1), .unset, .unset] [(.int (4 : Int32))])
  refine Go.st (T' := T4) (g' := (mkF m 14 #[.val (.ref b), .val (.int (0 : Int32)), .val (.int (4 : Int32)), .val (.ref b1), .val (.int (4 : Int32)), .unset] [])) (fun _ zk => XS.istore X4.here hx rfl (hb hby d6_12) rfl (l' := #[.val (.ref b), .val (.int (0 : Int32)), .val (.int (4 : Int32)), .val (.ref b1), .val (.int (4 : Int32)), .unset]) rfl zk) ?_
  refine Go.st (T' := T4) (g' := (mkF m 16 #[.val (.ref b), .val (.int (0 : Int32)), .val (.int (4 : Int32)), .val (.ref b1), .val (.int (4 : Int32)), .unset] [(.int (4 : Int32))])) (fun _ zk => XS.iload X4.here hx rfl (hb hby d6_14) rfl zk) ?_
  refine Go.st (T' := T4) (g' := (mkF m 17 #[.val (.ref b), .val (.int (0 : Int32)), .val (.int (4 : Int32)), .val (.ref b1), .val (.int (4 : Int32)), .unset] [(.int (4 : Int32)), (.int (4 : Int32))])) (fun _ zk => XS.iloadN X4.here hx rfl (hb hby d6_16) rfl zk) ?_
  refine Go.st (T' := T4) (g' := (mkF m 57 #[.val (.ref b), .val (.int (0 : Int32)), .val (.int (4 : Int32)), .val (.ref b1), .val (.int (4 : Int32)), .unset] [])) (fun _ zk => XS.icmpYes X4.here hx rfl (pc0 := 17) (pc' := 57) rfl (hb hby d6_17) rfl (teq (rfl : (4 : Int32) = (4 : Int32))).1 (by decide) (by decide) zk) ?_
  refine Go.st (T' := T4) (g' := (mkF m 58 #[.val (.ref b), .val (.int (0 : Int32)), .val (.int (4 : Int32)), .val (.ref b1), .val (.int (4 : Int32)), .unset] [(.ref b1)])) (fun _ zk => XS.aloadN X4.here hx rfl (hb hby d6_57) rfl rfl zk) ?_
  have xt5 : Ext h0 h4 := (xt2.thenK K4 (allS (P := fun x => h0.size ≤ x) (Nat.le_of_eq g1.symm) all0))
  refine Go.retA X4 hx hlk hret rfl rfl (hb hby d6_58) (by decide) (by decide) e4 ?_
  exact ⟨_, _, rfl, N4, xt5, (Nat.le_trans (Nat.le_refl _) (Nat.le_of_eq g1.symm)), V4⟩
theorem d8_0 : decode jdk_52_method_15_code 0 = .ok (.iload_n 1, 1) := by decide +kernel
theorem d8_1 : decode jdk_52_method_15_code 1 = .ok (.aload_n 0, 1) := by decide +kernel
theorem d8_2 : decode jdk_52_method_15_code 2 = .ok (.arraylength, 1) := by decide +kernel
theorem d8_3 : decode jdk_52_method_15_code 3 = .ok (.isub, 1) := by decide +kernel
theorem d8_4 : decode jdk_52_method_15_code 4 = .ok (.bipush 31, 2) := by decide +kernel
theorem d8_6 : decode jdk_52_method_15_code 6 = .ok (.iushr, 1) := by decide +kernel
theorem d8_7 : decode jdk_52_method_15_code 7 = .ok (.i2b, 1) := by decide +kernel
theorem d8_8 : decode jdk_52_method_15_code 8 = .ok (.ireturn, 1) := by decide +kernel
def rr_codl_4 : Room := { frames := 0, cells := 0, slots := 0, locals := 0 }
set_option maxRecDepth 65536 in
set_option maxHeartbeats 40000000 in
theorem rm_codl_4 (l : Launch) (Z : State) (a0 : Array Value) (hw : ∀ d ∈ tables_1, d.before a0 Z = true) (ws : List Jvm.Cond) (t : Addr) (k : ClassId) (x0 x1 x2 x3 : Int32) (h0 : Heap) (n0 : Nat) (Z0 : n0 ≤ h0.size) (VB : Arv Z h0 t k .byte (4 : Int32) [(.int x0), (.int x1), (.int x2), (.int x3)] (.int (0 : Int32))) :
    Con l Z (⟨"java/lang/StringUTF16", "coderFromArrayLen", "([BI)B"⟩ : MethodName) jdk_52_method_15_code 2 (some .byte) ws rr_codl_4 #[(.ref t), (.int (4 : Int32))] h0 (fun v h L => v = some (.int 0) ∧ Fr n0 L ∧ h = h0) := by
  refine Con.enter (plainFor_of_name pn1) ?_
  intro p e s m below meth c s₁ X0 hx hZ hby hml hret hlk hown hnm e0
  have N0 := Fr.nil n0
  refine Go.cast (g' := (mkF m 0 #[.val (.ref t), .val (.int (4 : Int32))] [])) (by first | rfl | (simp [entryFrame, mkF, argsToLocals, Value.category]; done)) ?_
  refine Go.st (T' := s₁) (g' := (mkF m 1 #[.val (.ref t), .val (.int (4 : Int32))] [(.int (4 : Int32))])) (fun _ zk => XS.iloadN X0.here hx rfl (hb hby d8_0) rfl zk) ?_
  refine Go.st (T' := s₁) (g' := (mkF m 2 #[.val (.ref t), .val (.int (4 : Int32))] [(.ref t), (.int (4 : Int32))])) (fun _ zk => XS.aloadN X0.here hx rfl (hb hby d8_1) rfl rfl zk) ?_
  refine Go.st (T' := s₁) (g' := (mkF m 3 #[.val (.ref t), .val (.int (4 : Int32))] [(.int (4 : Int32)), (.int (4 : Int32))])) (fun _ zk => lenV X0 hx hZ e0 VB (g := (mkF m 2 #[.val (.ref t), .val (.int (4 : Int32))] [(.ref t), (.int (4 : Int32))])) rfl (rest := [(.int (4 : Int32))]) rfl (hb hby d8_2) zk) ?_
  refine Go.st (T' := s₁) (g' := (mkF m 4 #[.val (.ref t), .val (.int (4 : Int32))] [(.int ((4 : Int32) - (4 : Int32)))])) (fun _ zk => XS.isub X0.here hx rfl (hb hby d8_3) rfl zk) ?_
  rw [show ((4 : Int32) - (4 : Int32)) = (0 : Int32) from by decide]
  refine Go.st (T' := s₁) (g' := (mkF m 6 #[.val (.ref t), .val (.int (4 : Int32))] [(.int (31 : Int32)), (.int (0 : Int32))])) (fun _ zk => XS.bipush X0.here hx rfl (hb hby d8_4) zk) ?_
  refine Go.st (T' := s₁) (g' := (mkF m 7 #[.val (.ref t), .val (.int (4 : Int32))] [(.int (((0 : Int32).toUInt32 >>> ((31 : Int32) &&& 31).toUInt32).toInt32))])) (fun _ zk => XS.iushr X0.here hx rfl (hb hby d8_6) rfl zk) ?_
  rw [show (((0 : Int32).toUInt32 >>> ((31 : Int32) &&& 31).toUInt32).toInt32) = (0 : Int32) from by decide]
  refine Go.st (T' := s₁) (g' := (mkF m 8 #[.val (.ref t), .val (.int (4 : Int32))] [(.int ((0 : Int32).toInt8.toInt32))])) (fun _ zk => XS.i2b X0.here hx rfl (hb hby d8_7) rfl zk) ?_
  rw [show ((0 : Int32).toInt8.toInt32) = (0 : Int32) from by decide]
  refine Go.retN X0 hx hlk hret rfl (by simp) (hb hby d8_8) (by decide) (by decide) e0 ?_
  exact ⟨rfl, N0, rfl⟩
theorem d4_0 : decode jdk_42_method_149_code 0 = .ok (.aload_n 0, 1) := by decide +kernel
theorem d4_1 : decode jdk_42_method_149_code 1 = .ok (.invokespecial 1, 3) := by decide +kernel
theorem w23 {a0 : Array Value} {Z : State} (hw : ∀ d ∈ tables_1, d.before a0 Z = true) : ((Jvm.Cond.methodLink "java/lang/String" (1 : Nat) ({ cls := "java/lang/Object", name := "<init>", desc := "()V" } : Jvm.MethodName))).before a0 Z = true := hw _ (List.mem_of_getElem? (i := 23) rfl)
theorem w24 {a0 : Array Value} {Z : State} (hw : ∀ d ∈ tables_1, d.before a0 Z = true) : ((Jvm.Cond.instanceMethod ({ cls := "java/lang/Object", name := "<init>", desc := "()V" } : Jvm.MethodName))).before a0 Z = true := hw _ (List.mem_of_getElem? (i := 24) rfl)
theorem w25 {a0 : Array Value} {Z : State} (hw : ∀ d ∈ tables_1, d.before a0 Z = true) : ((Jvm.Cond.code ({ cls := "java/lang/Object", name := "<init>", desc := "()V" } : Jvm.MethodName) object_method_1_code (1 : Nat) (Option.none : Option Jvm.ClassFile.FieldType))).before a0 Z = true := hw _ (List.mem_of_getElem? (i := 25) rfl)
theorem d4_4 : decode jdk_42_method_149_code 4 = .ok (.iload_n 3, 1) := by decide +kernel
theorem d4_5 : decode jdk_42_method_149_code 5 = .ok (.ifCond .ne 22, 3) := by decide +kernel
theorem d4_27 : decode jdk_42_method_149_code 27 = .ok (.getstatic 38, 3) := by decide +kernel
theorem w26 {a0 : Array Value} {Z : State} (hw : ∀ d ∈ tables_1, d.before a0 Z = true) : ((Jvm.Cond.fieldLink "java/lang/String" (38 : Nat) "java/lang/String" "COMPACT_STRINGS" "Z")).before a0 Z = true := hw _ (List.mem_of_getElem? (i := 26) rfl)
theorem d4_30 : decode jdk_42_method_149_code 30 = .ok (.ifCond .eq 28, 3) := by decide +kernel
theorem d4_33 : decode jdk_42_method_149_code 33 = .ok (.aload_n 1, 1) := by decide +kernel
theorem d4_34 : decode jdk_42_method_149_code 34 = .ok (.iload_n 2, 1) := by decide +kernel
theorem d4_35 : decode jdk_42_method_149_code 35 = .ok (.iload_n 3, 1) := by decide +kernel
theorem w30 {a0 : Array Value} {Z : State} (hw : ∀ d ∈ tables_1, d.before a0 Z = true) : ((Jvm.Cond.code ({ cls := "java/lang/StringUTF16", name := "compress", desc := "([CII)[B" } : Jvm.MethodName) jdk_52_method_16_code (6 : Nat) (Option.some (Jvm.ClassFile.FieldType.array Jvm.ClassFile.FieldType.byte)))).before a0 Z = true := hw _ (List.mem_of_getElem? (i := 30) rfl)
theorem pd3 : parseMethodDescriptor "([CII)[B" = some ⟨[(.array .char), .int, .int], some (.array .byte)⟩ := by decide +kernel
theorem d4_36 : decode jdk_42_method_149_code 36 = .ok (.invokestatic 177, 3) := by decide +kernel
theorem w27 {a0 : Array Value} {Z : State} (hw : ∀ d ∈ tables_1, d.before a0 Z = true) : ((Jvm.Cond.methodLink "java/lang/String" (177 : Nat) ({ cls := "java/lang/StringUTF16", name := "compress", desc := "([CII)[B" } : Jvm.MethodName))).before a0 Z = true := hw _ (List.mem_of_getElem? (i := 27) rfl)
theorem w28 {a0 : Array Value} {Z : State} (hw : ∀ d ∈ tables_1, d.before a0 Z = true) : ((Jvm.Cond.static ({ cls := "java/lang/StringUTF16", name := "compress", desc := "([CII)[B" } : Jvm.MethodName))).before a0 Z = true := hw _ (List.mem_of_getElem? (i := 28) rfl)
theorem d4_39 : decode jdk_42_method_149_code 39 = .ok (.astore 5, 2) := by decide +kernel
theorem d4_41 : decode jdk_42_method_149_code 41 = .ok (.aload_n 0, 1) := by decide +kernel
theorem d4_42 : decode jdk_42_method_149_code 42 = .ok (.aload 5, 2) := by decide +kernel
theorem d4_44 : decode jdk_42_method_149_code 44 = .ok (.iload_n 3, 1) := by decide +kernel
theorem w37 {a0 : Array Value} {Z : State} (hw : ∀ d ∈ tables_1, d.before a0 Z = true) : ((Jvm.Cond.code ({ cls := "java/lang/StringUTF16", name := "coderFromArrayLen", desc := "([BI)B" } : Jvm.MethodName) jdk_52_method_15_code (2 : Nat) (Option.some Jvm.ClassFile.FieldType.byte))).before a0 Z = true := hw _ (List.mem_of_getElem? (i := 37) rfl)
theorem pd4 : parseMethodDescriptor "([BI)B" = some ⟨[(.array .byte), .int], some .byte⟩ := by decide +kernel
theorem d4_45 : decode jdk_42_method_149_code 45 = .ok (.invokestatic 47, 3) := by decide +kernel
theorem w35 {a0 : Array Value} {Z : State} (hw : ∀ d ∈ tables_1, d.before a0 Z = true) : ((Jvm.Cond.methodLink "java/lang/String" (47 : Nat) ({ cls := "java/lang/StringUTF16", name := "coderFromArrayLen", desc := "([BI)B" } : Jvm.MethodName))).before a0 Z = true := hw _ (List.mem_of_getElem? (i := 35) rfl)
theorem w36 {a0 : Array Value} {Z : State} (hw : ∀ d ∈ tables_1, d.before a0 Z = true) : ((Jvm.Cond.static ({ cls := "java/lang/StringUTF16", name := "coderFromArrayLen", desc := "([BI)B" } : Jvm.MethodName))).before a0 Z = true := hw _ (List.mem_of_getElem? (i := 36) rfl)
theorem d4_48 : decode jdk_42_method_149_code 48 = .ok (.putfield 15, 3) := by decide +kernel
theorem w38 {a0 : Array Value} {Z : State} (hw : ∀ d ∈ tables_1, d.before a0 Z = true) : ((Jvm.Cond.fieldLink "java/lang/String" (15 : Nat) "java/lang/String" "coder" "B")).before a0 Z = true := hw _ (List.mem_of_getElem? (i := 38) rfl)
theorem w14 {a0 : Array Value} {Z : State} (hw : ∀ d ∈ tables_1, d.before a0 Z = true) : ((Jvm.Cond.instantiable "java/lang/String" (4 : Nat))).before a0 Z = true := hw _ (List.mem_of_getElem? (i := 14) rfl)
theorem w39 {a0 : Array Value} {Z : State} (hw : ∀ d ∈ tables_1, d.before a0 Z = true) : ((Jvm.Cond.laysFinal "java/lang/String" "java/lang/String" "coder" "B")).before a0 Z = true := hw _ (List.mem_of_getElem? (i := 39) rfl)
theorem d4_51 : decode jdk_42_method_149_code 51 = .ok (.aload_n 0, 1) := by decide +kernel
theorem d4_52 : decode jdk_42_method_149_code 52 = .ok (.aload 5, 2) := by decide +kernel
theorem d4_54 : decode jdk_42_method_149_code 54 = .ok (.putfield 9, 3) := by decide +kernel
theorem w40 {a0 : Array Value} {Z : State} (hw : ∀ d ∈ tables_1, d.before a0 Z = true) : ((Jvm.Cond.fieldLink "java/lang/String" (9 : Nat) "java/lang/String" "value" "[B")).before a0 Z = true := hw _ (List.mem_of_getElem? (i := 40) rfl)
theorem w41 {a0 : Array Value} {Z : State} (hw : ∀ d ∈ tables_1, d.before a0 Z = true) : ((Jvm.Cond.laysFinal "java/lang/String" "java/lang/String" "value" "[B")).before a0 Z = true := hw _ (List.mem_of_getElem? (i := 41) rfl)
theorem d4_57 : decode jdk_42_method_149_code 57 = .ok (.return_, 1) := by decide +kernel
def rr_init4_4 : Room := { frames := 2, cells := 1, slots := 4, locals := 35 }
theorem pn5 : plainName "java/lang/String" = true := by first | (simp [plainName, overriddenIn]; done) | decide +kernel
set_option maxRecDepth 65536 in
set_option maxHeartbeats 40000000 in
theorem rm_init4_4 (l : Launch) (Z : State) (a0 : Array Value) (hw : ∀ d ∈ tables_1, d.before a0 Z = true) (ws : List Jvm.Cond) (a1 b : Addr) (kC : ClassId) (zc : Int32) (c0 c1 c2 c3 : Int32) (h0 : Heap) (n0 : Nat) (Z0 : n0 ≤ h0.size) (O0 : Old Z n0 h0) (E0 : Exa Z h0 a1 "java/lang/String") (g0 : n0 ≤ a1) (C0 : Fld Z h0 a1 "java/lang/String" "coder" "B" (.int (0 : Int32))) (V0 : Fld Z h0 a1 "java/lang/String" "value" "[B" .null) (VC : Arv Z h0 b kC .char (4 : Int32) [(.int c0), (.int c1), (.int c2), (.int c3)] (.int (0 : Int32))) (CS : Sta Z Z.heap "java/lang/String" "COMPACT_STRINGS" "Z" (.int zc)) (hz : ¬ zc = 0) (p0 : ¬ (255 : Int32) < c0) (p1 : ¬ (255 : Int32) < c1) (p2 : ¬ (255 : Int32) < c2) (p3 : ¬ (255 : Int32) < c3) :
    Con l Z (⟨"java/lang/String", "<init>", "([CIILjava/lang/Void;)V"⟩ : MethodName) jdk_42_method_149_code 6 none ws rr_init4_4 #[(.ref a1), (.ref b), (.int (0 : Int32)), (.int (4 : Int32)), .null] h0 (fun v h L => v = none ∧ Fr n0 L ∧ Keep h0 h [a1] ∧ Fld Z h a1 "java/lang/String" "coder" "B" (.int (0 : Int32)) ∧ ∃ (t : Addr) (k : ClassId), h0.size ≤ t ∧ Fld Z h a1 "java/lang/String" "value" "[B" (.ref t) ∧ Arv Z h t k .byte (4 : Int32) [(.int (c0.toInt8.toInt32)), (.int (c1.toInt8.toInt32)), (.int (c2.toInt8.toInt32)), (.int (c3.toInt8.toInt32))] (.int (0 : Int32))) := by
  refine Con.enter (plainFor_of_name pn5) ?_
  intro p e s m below meth c s₁ X0 hx hZ hby hml hret hlk hown hnm e0
  have N0 := Fr.nil n0
  refine Go.cast (g' := (mkF m 0 #[.val (.ref a1), .val (.ref b), .val (.int (0 : Int32)), .val (.int (4 : Int32)), .val .null, .unset] [])) (by first | rfl | (simp [entryFrame, mkF, argsToLocals, Value.category]; done)) ?_
  refine Go.st (T' := s₁) (g' := (mkF m 1 #[.val (.ref a1), .val (.ref b), .val (.int (0 : Int32)), .val (.int (4 : Int32)), .val .null, .unset] [(.ref a1)])) (fun _ zk => XS.aloadN X0.here hx rfl (hb hby d4_0) rfl rfl zk) ?_
  obtain ⟨T1, X1, e1, st1⟩ := initO X0 hx hZ hown (w23 hw) (w24 hw) (w25 hw) e0 (g := (mkF m 1 #[.val (.ref a1), .val (.ref b), .val (.int (0 : Int32)), .val (.int (4 : Int32)), .val .null, .unset] [(.ref a1)])) rfl (by rw [hml]; rfl) rfl (hb hby d4_1) (by decide) (W := 0) (by show 2 * 0 + _ ≤ _; exact Nat.le_of_eq rfl) (by decide)
  refine Go.st (T' := T1) (g' := (mkF m 4 #[.val (.ref a1), .val (.ref b), .val (.int (0 : Int32)), .val (.int (4 : Int32)), .val .null, .unset] [])) (fun _ zk => st1 _ zk) ?_
  refine Go.st (T' := T1) (g' := (mkF m 5 #[.val (.ref a1), .val (.ref b), .val (.int (0 : Int32)), .val (.int (4 : Int32)), .val .null, .unset] [(.int (4 : Int32))])) (fun _ zk => XS.iloadN X1.here hx rfl (hb hby d4_4) rfl zk) ?_
  refine Go.st (T' := T1) (g' := (mkF m 27 #[.val (.ref a1), .val (.ref b), .val (.int (0 : Int32)), .val (.int (4 : Int32)), .val .null, .unset] [])) (fun _ zk => XS.ifYes X1.here hx rfl (pc0 := 5) (pc' := 27) rfl (hb hby d4_5) rfl ((if0 _ _).trans (feq ((by decide) : ¬ ((4 : Int32) = (0 : Int32)))).2) (by decide) (by decide) zk) ?_
  obtain ⟨T2, X2, e2, st2⟩ := getS2 X1 hx hZ hown (host := "") (Or.inl (w26 hw)) Via.refl e1 (CS.ext O0.2) (g := (mkF m 27 #[.val (.ref a1), .val (.ref b), .val (.int (0 : Int32)), .val (.int (4 : Int32)), .val .null, .unset] [])) rfl (hb hby d4_27)
  refine Go.st (T' := T2) (g' := (mkF m 30 #[.val (.ref a1), .val (.ref b), .val (.int (0 : Int32)), .val (.int (4 : Int32)), .val .null, .unset] [(.int zc)])) (fun _ zk => st2 _ zk) ?_
  refine Go.st (T' := T2) (g' := (mkF m 33 #[.val (.ref a1), .val (.ref b), .val (.int (0 : Int32)), .val (.int (4 : Int32)), .val .null, .unset] [])) (fun _ zk => XS.ifNo X2.here hx rfl (hb hby d4_30) rfl ((if0 _ _).trans (feq (hz : ¬ (zc = (0 : Int32)))).1) zk) ?_
  refine Go.st (T' := T2) (g' := (mkF m 34 #[.val (.ref a1), .val (.ref b), .val (.int (0 : Int32)), .val (.int (4 : Int32)), .val .null, .unset] [(.ref b)])) (fun _ zk => XS.aloadN X2.here hx rfl (hb hby d4_33) rfl rfl zk) ?_
  refine Go.st (T' := T2) (g' := (mkF m 35 #[.val (.ref a1), .val (.ref b), .val (.int (0 : Int32)), .val (.int (4 : Int32)), .val .null, .unset] [(.int (0 : Int32)), (.ref b)])) (fun _ zk => XS.iloadN X2.here hx rfl (hb hby d4_34) rfl zk) ?_
  refine Go.st (T' := T2) (g' := (mkF m 36 #[.val (.ref a1), .val (.ref b), .val (.int (0 : Int32)), .val (.int (4 : Int32)), .val .null, .unset] [(.int (4 : Int32)), (.int (0 : Int32)), (.ref b)])) (fun _ zk => XS.iloadN X2.here hx rfl (hb hby d4_35) rfl zk) ?_
  refine Go.callSt (y := (⟨"java/lang/StringUTF16", "compress", "([CII)[B"⟩ : MethodName)) X2 hx hZ hown e2 (w27 hw) (w28 hw) (w29 hw) (w30 hw) (by decide) (argsL := [(.ref b), (.int (0 : Int32)), (.int (4 : Int32))]) (rest := []) (W := 0) (rm_cmp3_4 l Z a0 hw [] b kC c0 c1 c2 c3 h0 n0 Z0 VC p0 p1 p2 p3) rfl (lenOf pd3 rfl) rfl (by rw [hml]; rfl) rfl (by show 2 * 0 + _ ≤ _; exact Nat.le_of_eq rfl) (by decide) (by decide) (by decide) (by decide) (hb hby d4_36) ?_
  intro v3 T3 h3 L3 X3 e3 q3
  obtain ⟨t3, k3, hv3, Nf3, E3, ge3, V3⟩ := q3
  subst hv3
  have N3 := Fr.app N0 Nf3
  show Go p.tables e below _ T3 (mkF m 39 #[.val (.ref a1), .val (.ref b), .val (.int (0 : Int32)), .val (.int (4 : Int32)), .val .null, .unset] [(.ref t3)])
  refine Go.st (T' := T3) (g' := (mkF m 41 #[.val (.ref a1), .val (.ref b), .val (.int (0 : Int32)), .val (.int (4 : Int32)), .val .null, .val (.ref t3)] [])) (fun _ zk => XS.astore X3.here hx rfl (hb hby d4_39) rfl rfl (l' := #[.val (.ref a1), .val (.ref b), .val (.int (0 : Int32)), .val (.int (4 : Int32)), .val .null, .val (.ref t3)]) rfl zk) ?_
  refine Go.st (T' := T3) (g' := (mkF m 42 #[.val (.ref a1), .val (.ref b), .val (.int (0 : Int32)), .val (.int (4 : Int32)), .val .null, .val (.ref t3)] [(.ref a1)])) (fun _ zk => XS.aloadN X3.here hx rfl (hb hby d4_41) rfl rfl zk) ?_
  refine Go.st (T' := T3) (g' := (mkF m 44 #[.val (.ref a1), .val (.ref b), .val (.int (0 : Int32)), .val (.int (4 : Int32)), .val .null, .val (.ref t3)] [(.ref t3), (.ref a1)])) (fun _ zk => XS.aload X3.here hx rfl (hb hby d4_42) rfl rfl zk) ?_
  refine Go.st (T' := T3) (g' := (mkF m 45 #[.val (.ref a1), .val (.ref b), .val (.int (0 : Int32)), .val (.int (4 : Int32)), .val .null, .val (.ref t3)] [(.int (4 : Int32)), (.ref t3), (.ref a1)])) (fun _ zk => XS.iloadN X3.here hx rfl (hb hby d4_44) rfl zk) ?_
  refine Go.callSt (y := (⟨"java/lang/StringUTF16", "coderFromArrayLen", "([BI)B"⟩ : MethodName)) X3 hx hZ hown e3 (w35 hw) (w36 hw) (w29 hw) (w37 hw) (by decide) (argsL := [(.ref t3), (.int (4 : Int32))]) (rest := [(.ref a1)]) (W := 1) (rm_codl_4 l Z a0 hw [] t3 k3 (c0.toInt8.toInt32) (c1.toInt8.toInt32) (c2.toInt8.toInt32) (c3.toInt8.toInt32) h3 n0 (Nat.le_trans Z0 E3.1) V3) rfl (lenOf pd4 rfl) rfl (by rw [hml]; rfl) rfl (by show 2 * 0 + _ ≤ _; exact Nat.le_of_eq rfl) (by decide) (by decide) (by decide) (by decide) (hb hby d4_45) ?_
  intro v4 T4 h4 L4 X4 e4 q4
  obtain ⟨hv4, Nf4, hh4⟩ := q4
  subst hv4
  have E4 : T4.heap = h3 := e4.trans hh4
  have N4 := Fr.app N3 Nf4
  show Go p.tables e below _ T4 (mkF m 48 #[.val (.ref a1), .val (.ref b), .val (.int (0 : Int32)), .val (.int (4 : Int32)), .val .null, .val (.ref t3)] [(.int (0 : Int32)), (.ref a1)])
  have xt6 : Ext h0 h3 := E3
  have f7 := C0.ext xt6
  have f8 := E0.ext xt6
  obtain ⟨T5, h5, X5, e5, W5, st5⟩ := putF X4 hx hZ hown (host := "") (Or.inl (w38 hw)) Via.refl E4 f7 f8 (Or.inr ⟨(w39 hw), rfl, hnm⟩) (w14 hw) (v := (.int (0 : Int32))) (ty := .byte) (by decide) rfl rfl (g := (mkF m 48 #[.val (.ref a1), .val (.ref b), .val (.int (0 : Int32)), .val (.int (4 : Int32)), .val .null, .val (.ref t3)] [(.int (0 : Int32)), (.ref a1)])) rfl rfl (hb hby d4_48)
  have F5 := f7.same W5
  have N5 := Fr.snoc X5 N4 g0
  refine Go.st (T' := T5) (g' := (mkF m 51 #[.val (.ref a1), .val (.ref b), .val (.int (0 : Int32)), .val (.int (4 : Int32)), .val .null, .val (.ref t3)] [])) (fun _ zk => st5 _ zk) ?_
  refine Go.st (T' := T5) (g' := (mkF m 52 #[.val (.ref a1), .val (.ref b), .val (.int (0 : Int32)), .val (.int (4 : Int32)), .val .null, .val (.ref t3)] [(.ref a1)])) (fun _ zk => XS.aloadN X5.here hx rfl (hb hby d4_51) rfl rfl zk) ?_
  refine Go.st (T' := T5) (g' := (mkF m 54 #[.val (.ref a1), .val (.ref b), .val (.int (0 : Int32)), .val (.int (4 : Int32)), .val .null, .val (.ref t3)] [(.ref t3), (.ref a1)])) (fun _ zk => XS.aload X5.here hx rfl (hb hby d4_52) rfl rfl zk) ?_
  have f10 := ((V0.ext E3).other W5 (Or.inr (slot_ne (Or.inr (w41 hw)) (Or.inr (w39 hw)) (by decide) (t := (.array .byte)) (t' := .byte) (by decide) (by decide))))
  have f11 := (f8.wr W5)
  obtain ⟨T9, h9, X9, e9, W9, st9⟩ := putF X5 hx hZ hown (host := "") (Or.inl (w40 hw)) Via.refl e5 f10 f11 (Or.inr ⟨(w41 hw), rfl, hnm⟩) (w14 hw) (ty := (.array .byte)) (by decide) rfl rfl (g := (mkF m 54 #[.val (.ref a1), .val (.ref b), .val (.int (0 : Int32)), .val (.int (4 : Int32)), .val .null, .val (.ref t3)] [(.ref t3), (.ref a1)])) rfl rfl (hb hby d4_54)
  have F9 := f10.same W9
  have N9 := Fr.snoc X9 N5 g0
  refine Go.st (T' := T9) (g' := (mkF m 57 #[.val (.ref a1), .val (.ref b), .val (.int (0 : Int32)), .val (.int (4 : Int32)), .val .null, .val (.ref t3)] [])) (fun _ zk => st9 _ zk) ?_
  have f12 := (F5.other W9 (Or.inr (slot_ne (Or.inr (w39 hw)) (Or.inr (w41 hw)) (by decide) (t := .byte) (t' := (.array .byte)) (by decide) (by decide))))
  have f13 := ((V3.other W5 (Ne.symm (ne_lt E0.lt (Nat.le_refl _) ge3))).other W9 (Ne.symm (ne_lt E0.lt (Nat.le_refl _) ge3)))
  refine Go.retV X9 hx hlk hret (hb hby d4_57) (by decide) (by decide) e9 ?_
  exact ⟨rfl, N9, ((((Keep.refl h0 [a1]).ext E3).wr W5 (Or.inl (List.mem_of_getElem? (i := 0) rfl))).wr W9 (Or.inl (List.mem_of_getElem? (i := 0) rfl))), f12, t3, _, (Nat.le_trans (Nat.le_refl _) ge3), F9, f13⟩
theorem d3_0 : decode jdk_42_method_3_code 0 = .ok (.aload_n 0, 1) := by decide +kernel
theorem d3_1 : decode jdk_42_method_3_code 1 = .ok (.aload_n 1, 1) := by decide +kernel
theorem d3_2 : decode jdk_42_method_3_code 2 = .ok (.iconst 0, 1) := by decide +kernel
theorem d3_3 : decode jdk_42_method_3_code 3 = .ok (.aload_n 1, 1) := by decide +kernel
theorem d3_4 : decode jdk_42_method_3_code 4 = .ok (.arraylength, 1) := by decide +kernel
theorem d3_5 : decode jdk_42_method_3_code 5 = .ok (.aconst_null, 1) := by decide +kernel
theorem w22 {a0 : Array Value} {Z : State} (hw : ∀ d ∈ tables_1, d.before a0 Z = true) : ((Jvm.Cond.code ({ cls := "java/lang/String", name := "<init>", desc := "([CIILjava/lang/Void;)V" } : Jvm.MethodName) jdk_42_method_149_code (6 : Nat) (Option.none : Option Jvm.ClassFile.FieldType))).before a0 Z = true := hw _ (List.mem_of_getElem? (i := 22) rfl)
theorem w15 {a0 : Array Value} {Z : State} (hw : ∀ d ∈ tables_1, d.before a0 Z = true) : ((Jvm.Cond.initialized "java/lang/String")).before a0 Z = true := hw _ (List.mem_of_getElem? (i := 15) rfl)
theorem pd6 : parseMethodDescriptor "([CIILjava/lang/Void;)V" = some ⟨[(.array .char), .int, .int, (.object "java/lang/Void")], none⟩ := by decide +kernel
theorem d3_6 : decode jdk_42_method_3_code 6 = .ok (.invokespecial 27, 3) := by decide +kernel
theorem w19 {a0 : Array Value} {Z : State} (hw : ∀ d ∈ tables_1, d.before a0 Z = true) : ((Jvm.Cond.methodLink "java/lang/String" (27 : Nat) ({ cls := "java/lang/String", name := "<init>", desc := "([CIILjava/lang/Void;)V" } : Jvm.MethodName))).before a0 Z = true := hw _ (List.mem_of_getElem? (i := 19) rfl)
theorem w20 {a0 : Array Value} {Z : State} (hw : ∀ d ∈ tables_1, d.before a0 Z = true) : ((Jvm.Cond.instanceMethod ({ cls := "java/lang/String", name := "<init>", desc := "([CIILjava/lang/Void;)V" } : Jvm.MethodName))).before a0 Z = true := hw _ (List.mem_of_getElem? (i := 20) rfl)
theorem d3_9 : decode jdk_42_method_3_code 9 = .ok (.return_, 1) := by decide +kernel
def rr_init1_4 : Room := { frames := 3, cells := 1, slots := 4, locals := 52 }
set_option maxRecDepth 65536 in
set_option maxHeartbeats 40000000 in
theorem rm_init1_4 (l : Launch) (Z : State) (a0 : Array Value) (hw : ∀ d ∈ tables_1, d.before a0 Z = true) (ws : List Jvm.Cond) (a1 b : Addr) (kC : ClassId) (zc : Int32) (c0 c1 c2 c3 : Int32) (h0 : Heap) (n0 : Nat) (Z0 : n0 ≤ h0.size) (O0 : Old Z n0 h0) (E0 : Exa Z h0 a1 "java/lang/String") (g0 : n0 ≤ a1) (C0 : Fld Z h0 a1 "java/lang/String" "coder" "B" (.int (0 : Int32))) (V0 : Fld Z h0 a1 "java/lang/String" "value" "[B" .null) (VC : Arv Z h0 b kC .char (4 : Int32) [(.int c0), (.int c1), (.int c2), (.int c3)] (.int (0 : Int32))) (CS : Sta Z Z.heap "java/lang/String" "COMPACT_STRINGS" "Z" (.int zc)) (hz : ¬ zc = 0) (p0 : ¬ (255 : Int32) < c0) (p1 : ¬ (255 : Int32) < c1) (p2 : ¬ (255 : Int32) < c2) (p3 : ¬ (255 : Int32) < c3) :
    Con l Z (⟨"java/lang/String", "<init>", "([C)V"⟩ : MethodName) jdk_42_method_3_code 2 none ws rr_init1_4 #[(.ref a1), (.ref b)] h0 (fun v h L => v = none ∧ Fr n0 L ∧ Keep h0 h [a1] ∧ Fld Z h a1 "java/lang/String" "coder" "B" (.int (0 : Int32)) ∧ ∃ (t : Addr) (k : ClassId), h0.size ≤ t ∧ Fld Z h a1 "java/lang/String" "value" "[B" (.ref t) ∧ Arv Z h t k .byte (4 : Int32) [(.int (c0.toInt8.toInt32)), (.int (c1.toInt8.toInt32)), (.int (c2.toInt8.toInt32)), (.int (c3.toInt8.toInt32))] (.int (0 : Int32))) := by
  refine Con.enter (plainFor_of_name pn5) ?_
  intro p e s m below meth c s₁ X0 hx hZ hby hml hret hlk hown hnm e0
  have N0 := Fr.nil n0
  refine Go.cast (g' := (mkF m 0 #[.val (.ref a1), .val (.ref b)] [])) (by first | rfl | (simp [entryFrame, mkF, argsToLocals, Value.category]; done)) ?_
  refine Go.st (T' := s₁) (g' := (mkF m 1 #[.val (.ref a1), .val (.ref b)] [(.ref a1)])) (fun _ zk => XS.aloadN X0.here hx rfl (hb hby d3_0) rfl rfl zk) ?_
  refine Go.st (T' := s₁) (g' := (mkF m 2 #[.val (.ref a1), .val (.ref b)] [(.ref b), (.ref a1)])) (fun _ zk => XS.aloadN X0.here hx rfl (hb hby d3_1) rfl rfl zk) ?_
  refine Go.st (T' := s₁) (g' := (mkF m 3 #[.val (.ref a1), .val (.ref b)] [(.int (0 : Int32)), (.ref b), (.ref a1)])) (fun _ zk => XS.iconst X0.here hx rfl (hb hby d3_2) zk) ?_
  refine Go.st (T' := s₁) (g' := (mkF m 4 #[.val (.ref a1), .val (.ref b)] [(.ref b), (.int (0 : Int32)), (.ref b), (.ref a1)])) (fun _ zk => XS.aloadN X0.here hx rfl (hb hby d3_3) rfl rfl zk) ?_
  refine Go.st (T' := s₁) (g' := (mkF m 5 #[.val (.ref a1), .val (.ref b)] [(.int (4 : Int32)), (.int (0 : Int32)), (.ref b), (.ref a1)])) (fun _ zk => lenV X0 hx hZ e0 VC (g := (mkF m 4 #[.val (.ref a1), .val (.ref b)] [(.ref b), (.int (0 : Int32)), (.ref b), (.ref a1)])) rfl (rest := [(.int (0 : Int32)), (.ref b), (.ref a1)]) rfl (hb hby d3_4) zk) ?_
  refine Go.st (T' := s₁) (g' := (mkF m 6 #[.val (.ref a1), .val (.ref b)] [.null, (.int (4 : Int32)), (.int (0 : Int32)), (.ref b), (.ref a1)])) (fun _ zk => XS.aconstNull X0.here hx rfl (hb hby d3_5) zk) ?_
  refine Go.callSp (y := (⟨"java/lang/String", "<init>", "([CIILjava/lang/Void;)V"⟩ : MethodName)) (a := a1) X0 hx hZ hown e0 rfl (w19 hw) (w20 hw) (w15 hw) (w22 hw) (by decide) (argsL := [(.ref b), (.int (0 : Int32)), (.int (4 : Int32)), .null]) (rest := []) (W := 0) (rm_init4_4 l Z a0 hw [] a1 b kC zc c0 c1 c2 c3 h0 n0 Z0 O0 E0 g0 C0 V0 VC CS hz p0 p1 p2 p3) rfl (lenOf pd6 rfl) rfl (by rw [hml]; rfl) rfl (by show 2 * 0 + _ ≤ _; exact Nat.le_of_eq rfl) (by decide) (by decide) (by decide) (by decide) (hb hby d3_6) ?_
  intro v1 T1 h1 L1 X1 e1 q1
  obtain ⟨hv1, Nf1, K1, C1, t1, k1, ge1, F1, V1⟩ := q1
  subst hv1
  have N1 := Fr.app N0 Nf1
  show Go p.tables e below _ T1 (mkF m 9 #[.val (.ref a1), .val (.ref b)] [])
  refine Go.retV X1 hx hlk hret (hb hby d3_9) (by decide) (by decide) e1 ?_
  exact ⟨rfl, N1, ((Keep.refl h0 [a1]).trans K1 (allS (P := fun x => x ∈ [a1] ∨ h0.size ≤ x) (Or.inl (List.mem_of_getElem? (i := 0) rfl)) all0)), C1, t1, _, (Nat.le_trans (Nat.le_refl _) ge1), F1, V1⟩
theorem d1_0 : decode method_3_code 0 = .ok (.iconst 4, 1) := by decide +kernel
theorem d1_1 : decode method_3_code 1 = .ok (.newarray .char, 2) := by decide +kernel
theorem w9 {a0 : Array Value} {Z : State} (hw : ∀ d ∈ tables_1, d.before a0 Z = true) : ((Jvm.Cond.arrayClass Jvm.ClassFile.FieldType.char)).before a0 Z = true := hw _ (List.mem_of_getElem? (i := 9) rfl)
theorem d1_3 : decode method_3_code 3 = .ok (.astore_n 1, 1) := by decide +kernel
theorem d1_4 : decode method_3_code 4 = .ok (.aload_n 1, 1) := by decide +kernel
theorem d1_5 : decode method_3_code 5 = .ok (.iconst 0, 1) := by decide +kernel
theorem d1_6 : decode method_3_code 6 = .ok (.iload_n 0, 1) := by decide +kernel
theorem d1_7 : decode method_3_code 7 = .ok (.bipush 12, 2) := by decide +kernel
theorem d1_9 : decode method_3_code 9 = .ok (.iushr, 1) := by decide +kernel
theorem d1_10 : decode method_3_code 10 = .ok (.bipush 15, 2) := by decide +kernel
theorem d1_12 : decode method_3_code 12 = .ok (.iand, 1) := by decide +kernel
theorem w12 {a0 : Array Value} {Z : State} (hw : ∀ d ∈ tables_1, d.before a0 Z = true) : ((Jvm.Cond.code ({ cls := "com/example/tokenweave/tokenweave/core/EntryNameCompareToPinLaw", name := "hex", desc := "(I)C" } : Jvm.MethodName) method_2_code (1 : Nat) (Option.some Jvm.ClassFile.FieldType.char))).before a0 Z = true := hw _ (List.mem_of_getElem? (i := 12) rfl)
theorem w7 {a0 : Array Value} {Z : State} (hw : ∀ d ∈ tables_1, d.before a0 Z = true) : ((Jvm.Cond.initialized "com/example/tokenweave/tokenweave/core/EntryNameCompareToPinLaw")).before a0 Z = true := hw _ (List.mem_of_getElem? (i := 7) rfl)
theorem pd7 : parseMethodDescriptor "(I)C" = some ⟨[.int], some .char⟩ := by decide +kernel
theorem d1_13 : decode method_3_code 13 = .ok (.invokestatic 7, 3) := by decide +kernel
theorem w10 {a0 : Array Value} {Z : State} (hw : ∀ d ∈ tables_1, d.before a0 Z = true) : ((Jvm.Cond.methodLink "com/example/tokenweave/tokenweave/core/EntryNameCompareToPinLaw" (7 : Nat) ({ cls := "com/example/tokenweave/tokenweave/core/EntryNameCompareToPinLaw", name := "hex", desc := "(I)C" } : Jvm.MethodName))).before a0 Z = true := hw _ (List.mem_of_getElem? (i := 10) rfl)
theorem w11 {a0 : Array Value} {Z : State} (hw : ∀ d ∈ tables_1, d.before a0 Z = true) : ((Jvm.Cond.static ({ cls := "com/example/tokenweave/tokenweave/core/EntryNameCompareToPinLaw", name := "hex", desc := "(I)C" } : Jvm.MethodName))).before a0 Z = true := hw _ (List.mem_of_getElem? (i := 11) rfl)
theorem d1_16 : decode method_3_code 16 = .ok (.castore, 1) := by decide +kernel
theorem d1_17 : decode method_3_code 17 = .ok (.aload_n 1, 1) := by decide +kernel
theorem d1_18 : decode method_3_code 18 = .ok (.iconst 1, 1) := by decide +kernel
theorem d1_19 : decode method_3_code 19 = .ok (.iload_n 0, 1) := by decide +kernel
theorem d1_20 : decode method_3_code 20 = .ok (.bipush 8, 2) := by decide +kernel
theorem d1_22 : decode method_3_code 22 = .ok (.iushr, 1) := by decide +kernel
theorem d1_23 : decode method_3_code 23 = .ok (.bipush 15, 2) := by decide +kernel
theorem d1_25 : decode method_3_code 25 = .ok (.iand, 1) := by decide +kernel
theorem d1_26 : decode method_3_code 26 = .ok (.invokestatic 7, 3) := by decide +kernel
theorem d1_29 : decode method_3_code 29 = .ok (.castore, 1) := by decide +kernel
theorem d1_30 : decode method_3_code 30 = .ok (.aload_n 1, 1) := by decide +kernel
theorem d1_31 : decode method_3_code 31 = .ok (.iconst 2, 1) := by decide +kernel
theorem d1_32 : decode method_3_code 32 = .ok (.iload_n 0, 1) := by decide +kernel
theorem d1_33 : decode method_3_code 33 = .ok (.iconst 4, 1) := by decide +kernel
theorem d1_34 : decode method_3_code 34 = .ok (.iushr, 1) := by decide +kernel
theorem d1_35 : decode method_3_code 35 = .ok (.bipush 15, 2) := by decide +kernel
theorem d1_37 : decode method_3_code 37 = .ok (.iand, 1) := by decide +kernel
theorem d1_38 : decode method_3_code 38 = .ok (.invokestatic 7, 3) := by decide +kernel
theorem d1_41 : decode method_3_code 41 = .ok (.castore, 1) := by decide +kernel
theorem d1_42 : decode method_3_code 42 = .ok (.aload_n 1, 1) := by decide +kernel
theorem d1_43 : decode method_3_code 43 = .ok (.iconst 3, 1) := by decide +kernel
theorem d1_44 : decode method_3_code 44 = .ok (.iload_n 0, 1) := by decide +kernel
theorem d1_45 : decode method_3_code 45 = .ok (.bipush 15, 2) := by decide +kernel
theorem d1_47 : decode method_3_code 47 = .ok (.iand, 1) := by decide +kernel
theorem d1_48 : decode method_3_code 48 = .ok (.invokestatic 7, 3) := by decide +kernel
theorem d1_51 : decode method_3_code 51 = .ok (.castore, 1) := by decide +kernel
theorem d1_52 : decode method_3_code 52 = .ok (.new 13, 3) := by decide +kernel
theorem w13 {a0 : Array Value} {Z : State} (hw : ∀ d ∈ tables_1, d.before a0 Z = true) : ((Jvm.Cond.classLink "com/example/tokenweave/tokenweave/core/EntryNameCompareToPinLaw" (13 : Nat) "java/lang/String")).before a0 Z = true := hw _ (List.mem_of_getElem? (i := 13) rfl)
theorem d1_55 : decode method_3_code 55 = .ok (.dup, 1) := by decide +kernel
theorem d1_56 : decode method_3_code 56 = .ok (.aload_n 1, 1) := by decide +kernel
theorem w18 {a0 : Array Value} {Z : State} (hw : ∀ d ∈ tables_1, d.before a0 Z = true) : ((Jvm.Cond.code ({ cls := "java/lang/String", name := "<init>", desc := "([C)V" } : Jvm.MethodName) jdk_42_method_3_code (2 : Nat) (Option.none : Option Jvm.ClassFile.FieldType))).before a0 Z = true := hw _ (List.mem_of_getElem? (i := 18) rfl)
theorem pd8 : parseMethodDescriptor "([C)V" = some ⟨[(.array .char)], none⟩ := by decide +kernel
theorem d1_57 : decode method_3_code 57 = .ok (.invokespecial 15, 3) := by decide +kernel
theorem w16 {a0 : Array Value} {Z : State} (hw : ∀ d ∈ tables_1, d.before a0 Z = true) : ((Jvm.Cond.methodLink "com/example/tokenweave/tokenweave/core/EntryNameCompareToPinLaw" (15 : Nat) ({ cls := "java/lang/String", name := "<init>", desc := "([C)V" } : Jvm.MethodName))).before a0 Z = true := hw _ (List.mem_of_getElem? (i := 16) rfl)
theorem w17 {a0 : Array Value} {Z : State} (hw : ∀ d ∈ tables_1, d.before a0 Z = true) : ((Jvm.Cond.instanceMethod ({ cls := "java/lang/String", name := "<init>", desc := "([C)V" } : Jvm.MethodName))).before a0 Z = true := hw _ (List.mem_of_getElem? (i := 17) rfl)
theorem d1_60 : decode method_3_code 60 = .ok (.areturn, 1) := by decide +kernel
def rr_hashOf : Room := { frames := 4, cells := 3, slots := 12, locals := 66 }
set_option maxRecDepth 65536 in
set_option maxHeartbeats 40000000 in
theorem rm_hashOf (l : Launch) (Z : State) (a0 : Array Value) (hw : ∀ d ∈ tables_1, d.before a0 Z = true) (ws : List Jvm.Cond) (x zc : Int32) (h0 : Heap) (n0 : Nat) (Z0 : n0 ≤ h0.size) (O0 : Old Z n0 h0) (CS : Sta Z Z.heap "java/lang/String" "COMPACT_STRINGS" "Z" (.int zc)) (hz : ¬ zc = 0) (hb0 : 0 ≤ x.toInt ∧ x.toInt ≤ 65535) :
    Con l Z (⟨"com/example/tokenweave/tokenweave/core/EntryNameCompareToPinLaw", "hashOf", "(I)Ljava/lang/String;"⟩ : MethodName) method_3_code 2 (some (.object "java/lang/String")) ws rr_hashOf #[(.int x)] h0 (fun v h L => ∃ (a : Addr) (c0 c1 c2 c3 : Int32), v = some (.ref a) ∧ Fr n0 L ∧ Ext h0 h ∧ StrB Z h a 0 [c0, c1, c2, c3] ∧ hx c0.toInt (x.toInt / 4096 % 16) ∧ hx c1.toInt (x.toInt / 256 % 16) ∧ hx c2.toInt (x.toInt / 16 % 16) ∧ hx c3.toInt (x.toInt % 16)) := by
  refine Con.enter (plainFor_of_name pn0) ?_
  intro p e s m below meth c s₁ X0 hx hZ hby hml hret hlk hown hnm e0
  have N0 := Fr.nil n0
  refine Go.cast (g' := (mkF m 0 #[.val (.int x), .unset] [])) (by first | rfl | (simp [entryFrame, mkF, argsToLocals, Value.category]; done)) ?_
  refine Go.st (T' := s₁) (g' := (mkF m 1 #[.val (.int x), .unset] [(.int (4 : Int32))])) (fun _ zk => XS.iconst X0.here hx rfl (hb hby d1_0) zk) ?_
  obtain ⟨T1, h1, k1, X1, e1, E1, A1, st1⟩ := newP (aty := .char) X0 hx hZ (w9 hw) e0 (g := (mkF m 1 #[.val (.int x), .unset] [(.int (4 : Int32))])) rfl (hb hby d1_1) rfl (by decide) (cap := 4) (by decide) (by decide) (by decide) (by decide)
  obtain ⟨b1, g1⟩ : ∃ z, z = h0.size := ⟨_, rfl⟩
  rw [← g1] at A1 st1
  have V1 : Arv Z h1 b1 k1 .char (4 : Int32) [(.int (0 : Int32)), (.int (0 : Int32)), (.int (0 : Int32)), (.int (0 : Int32))] (.int (0 : Int32)) := (Arv.new A1 (by decide)).pad (pad_rep [] (.int (0 : Int32)) 4)
  refine Go.st (T' := T1) (g' := (mkF m 3 #[.val (.int x), .unset] [(.ref b1)])) (fun _ zk => st1 _ zk) ?_
  refine Go.st (T' := T1) (g' := (mkF m 4 #[.val (.int x), .val (.ref b1)] [])) (fun _ zk => XS.astoreN X1.here hx rfl (hb hby d1_3) rfl rfl (l' := #[.val (.int x), .val (.ref b1)]) rfl zk) ?_
  refine Go.st (T' := T1) (g' := (mkF m 5 #[.val (.int x), .val (.ref b1)] [(.ref b1)])) (fun _ zk => XS.aloadN X1.here hx rfl (hb hby d1_4) rfl rfl zk) ?_
  refine Go.st (T' := T1) (g' := (mkF m 6 #[.val (.int x), .val (.ref b1)] [(.int (0 : Int32)), (.ref b1)])) (fun _ zk => XS.iconst X1.here hx rfl (hb hby d1_5) zk) ?_
  refine Go.st (T' := T1) (g' := (mkF m 7 #[.val (.int x), .val (.ref b1)] [(.int x), (.int (0 : Int32)), (.ref b1)])) (fun _ zk => XS.iloadN X1.here hx rfl (hb hby d1_6) rfl zk) ?_
  refine Go.st (T' := T1) (g' := (mkF m 9 #[.val (.int x), .val (.ref b1)] [(.int (12 : Int32)), (.int x), (.int (0 : Int32)), (.ref b1)])) (fun _ zk => XS.bipush X1.here hx rfl (hb hby d1_7) zk) ?_
  refine Go.st (T' := T1) (g' := (mkF m 10 #[.val (.int x), .val (.ref b1)] [(.int ((x.toUInt32 >>> ((12 : Int32) &&& 31).toUInt32).toInt32)), (.int (0 : Int32)), (.ref b1)])) (fun _ zk => XS.iushr X1.here hx rfl (hb hby d1_9) rfl zk) ?_
  refine Go.st (T' := T1) (g' := (mkF m 12 #[.val (.int x), .val (.ref b1)] [(.int (15 : Int32)), (.int ((x.toUInt32 >>> ((12 : Int32) &&& 31).toUInt32).toInt32)), (.int (0 : Int32)), (.ref b1)])) (fun _ zk => XS.bipush X1.here hx rfl (hb hby d1_10) zk) ?_
  refine Go.st (T' := T1) (g' := (mkF m 13 #[.val (.int x), .val (.ref b1)] [(.int (((x.toUInt32 >>> ((12 : Int32) &&& 31).toUInt32).toInt32) &&& (15 : Int32))), (.int (0 : Int32)), (.ref b1)])) (fun _ zk => XS.iand X1.here hx rfl (hb hby d1_12) rfl zk) ?_
  obtain ⟨d0, hd0⟩ : ∃ z, z = (((x.toUInt32 >>> ((12 : Int32) &&& 31).toUInt32).toInt32) &&& (15 : Int32)) := ⟨_, rfl⟩
  rw [← hd0]
  have qd0 := own_dig hb0 12 12 (by decide) (by decide) 4096 (by decide)
  rw [← hd0] at qd0
  have bd0 : 0 ≤ d0.toInt ∧ d0.toInt ≤ 15 := by omega
  refine Go.callSt (y := (⟨"com/example/tokenweave/tokenweave/core/EntryNameCompareToPinLaw", "hex", "(I)C"⟩ : MethodName)) X1 hx hZ hown e1 (w10 hw) (w11 hw) (w7 hw) (w12 hw) (by decide) (argsL := [(.int d0)]) (rest := [(.int (0 : Int32)), (.ref b1)]) (W := 2) (rm_hex l Z a0 hw [] d0 h1 n0 (Nat.le_trans Z0 E1.1) bd0) rfl (lenOf pd7 rfl) rfl (by rw [hml]; rfl) rfl (by show 2 * 0 + _ ≤ _; exact Nat.le_of_eq rfl) (by decide) (by decide) (by decide) (by decide) (hb hby d1_13) ?_
  intro v2 T2 h2 L2 X2 e2 q2
  obtain ⟨c0, hv2, hx0, Nf2, hh2⟩ := q2
  subst hv2
  have E2 : T2.heap = h1 := e2.trans hh2
  have N2 := Fr.app N0 Nf2
  have hy0 := own_hx hx0 bd0
  show Go p.tables e below _ T2 (mkF m 16 #[.val (.int x), .val (.ref b1)] [(.int c0), (.int (0 : Int32)), (.ref b1)])
  obtain ⟨T3, h3, X3, e3, W3, V3, st3⟩ := stCV X2 hx hZ E2 V1 (j := (0 : Int32)) (i := 0) (by decide) rfl (Nat.le_of_ble_eq_true rfl) (g := (mkF m 16 #[.val (.int x), .val (.ref b1)] [(.int c0), (.int (0 : Int32)), (.ref b1)])) rfl rfl (hb hby d1_16)
  rw [nar_cid (x := c0) ⟨by omega, by omega⟩] at V3
  have V3' : Arv Z h3 b1 k1 .char (4 : Int32) [(.int c0), (.int (0 : Int32)), (.int (0 : Int32)), (.int (0 : Int32))] (.int (0 : Int32)) := V3
  have N3 := Fr.snoc X3 N2 (Nat.le_trans Z0 (Nat.le_trans (Nat.le_refl _) (Nat.le_of_eq g1.symm)))
  refine Go.st (T' := T3) (g' := (mkF m 17 #[.val (.int x), .val (.ref b1)] [])) (fun _ zk => st3 _ zk) ?_
  refine Go.st (T' := T3) (g' := (mkF m 18 #[.val (.int x), .val (.ref b1)] [(.ref b1)])) (fun _ zk => XS.aloadN X3.here hx rfl (hb hby d1_17) rfl rfl zk) ?_
  refine Go.st (T' := T3) (g' := (mkF m 19 #[.val (.int x), .val (.ref b1)] [(.int (1 : Int32)), (.ref b1)])) (fun _ zk => XS.iconst X3.here hx rfl (hb hby d1_18) zk) ?_
  refine Go.st (T' := T3) (g' := (mkF m 20 #[.val (.int x), .val (.ref b1)] [(.int x), (.int (1 : Int32)), (.ref b1)])) (fun _ zk => XS.iloadN X3.here hx rfl (hb hby d1_19) rfl zk) ?_
  refine Go.st (T' := T3) (g' := (mkF m 22 #[.val (.int x), .val (.ref b1)] [(.int (8 : Int32)), (.int x), (.int (1 : Int32)), (.ref b1)])) (fun _ zk => XS.bipush X3.here hx rfl (hb hby d1_20) zk) ?_
  refine Go.st (T' := T3) (g' := (mkF m 23 #[.val (.int x), .val (.ref b1)] [(.int ((x.toUInt32 >>> ((8 : Int32) &&& 31).toUInt32).toInt32)), (.int (1 : Int32)), (.ref b1)])) (fun _ zk => XS.iushr X3.here hx rfl (hb hby d1_22) rfl zk) ?_
  refine Go.st (T' := T3) (g' := (mkF m 25 #[.val (.int x), .val (.ref b1)] [(.int (15 : Int32)), (.int ((x.toUInt32 >>> ((8 : Int32) &&& 31).toUInt32).toInt32)), (.int (1 : Int32)), (.ref b1)])) (fun _ zk => XS.bipush X3.here hx rfl (hb hby d1_23) zk) ?_
  refine Go.st (T' := T3) (g' := (mkF m 26 #[.val (.int x), .val (.ref b1)] [(.int (((x.toUInt32 >>> ((8 : Int32) &&& 31).toUInt32).toInt32) &&& (15 : Int32))), (.int (1 : Int32)), (.ref b1)])) (fun _ zk => XS.iand X3.here hx rfl (hb hby d1_25) rfl zk) ?_
  obtain ⟨d1, hd1⟩ : ∃ z, z = (((x.toUInt32 >>> ((8 : Int32) &&& 31).toUInt32).toInt32) &&& (15 : Int32)) := ⟨_, rfl⟩
  rw [← hd1]
  have qd1 := own_dig hb0 8 8 (by decide) (by decide) 256 (by decide)
  rw [← hd1] at qd1
  have bd1 : 0 ≤ d1.toInt ∧ d1.toInt ≤ 15 := by omega
  refine Go.callSt (y := (⟨"com/example/tokenweave/tokenweave/core/EntryNameCompareToPinLaw", "hex", "(I)C"⟩ : MethodName)) X3 hx hZ hown e3 (w10 hw) (w11 hw) (w7 hw) (w12 hw) (by decide) (argsL := [(.int d1)]) (rest := [(.int (1 : Int32)), (.ref b1)]) (W := 2) (rm_hex l Z a0 hw [] d1 h3 n0 (Nat.le_trans Z0 (Nat.le_trans E1.1 (Keep.of_wr W3).1)) bd1) rfl (lenOf pd7 rfl) rfl (by rw [hml]; rfl) rfl (by show 2 * 0 + _ ≤ _; exact Nat.le_of_eq rfl) (by decide) (by decide) (by decide) (by decide) (hb hby d1_26) ?_
  intro v4 T4 h4 L4 X4 e4 q4
  obtain ⟨c1, hv4, hx1, Nf4, hh4⟩ := q4
  subst hv4
  have E4 : T4.heap = h3 := e4.trans hh4
  have N4 := Fr.app N3 Nf4
  have hy1 := own_hx hx1 bd1
  show Go p.tables e below _ T4 (mkF m 29 #[.val (.int x), .val (.ref b1)] [(.int c1), (.int (1 : Int32)), (.ref b1)])
  obtain ⟨T5, h5, X5, e5, W5, V5, st5⟩ := stCV X4 hx hZ E4 V3' (j := (1 : Int32)) (i := 1) (by decide) rfl (Nat.le_of_ble_eq_true rfl) (g := (mkF m 29 #[.val (.int x), .val (.ref b1)] [(.int c1), (.int (1 : Int32)), (.ref b1)])) rfl rfl (hb hby d1_29)
  rw [nar_cid (x := c1) ⟨by omega, by omega⟩] at V5
  have V5' : Arv Z h5 b1 k1 .char (4 : Int32) [(.int c0), (.int c1), (.int (0 : Int32)), (.int (0 : Int32))] (.int (0 : Int32)) := V5
  have N5 := Fr.snoc X5 N4 (Nat.le_trans Z0 (Nat.le_trans (Nat.le_refl _) (Nat.le_of_eq g1.symm)))
  refine Go.st (T' := T5) (g' := (mkF m 30 #[.val (.int x), .val (.ref b1)] [])) (fun _ zk => st5 _ zk) ?_
  refine Go.st (T' := T5) (g' := (mkF m 31 #[.val (.int x), .val (.ref b1)] [(.ref b1)])) (fun _ zk => XS.aloadN X5.here hx rfl (hb hby d1_30) rfl rfl zk) ?_
  refine Go.st (T' := T5) (g' := (mkF m 32 #[.val (.int x), .val (.ref b1)] [(.int (2 : Int32)), (.ref b1)])) (fun _ zk => XS.iconst X5.here hx rfl (hb hby d1_31) zk) ?_
  refine Go.st (T' := T5) (g' := (mkF m 33 #[.val (.int x), .val (.ref b1)] [(.int x), (.int (2 : Int32)), (.ref b1)])) (fun _ zk => XS.iloadN X5.here hx rfl (hb hby d1_32) rfl zk) ?_
  refine Go.st (T' := T5) (g' := (mkF m 34 #[.val (.int x), .val (.ref b1)] [(.int (4 : Int32)), (.int x), (.int (2 : Int32)), (.ref b1)])) (fun _ zk => XS.iconst X5.here hx rfl (hb hby d1_33) zk) ?_
  refine Go.st (T' := T5) (g' := (mkF m 35 #[.val (.int x), .val (.ref b1)] [(.int ((x.toUInt32 >>> ((4 : Int32) &&& 31).toUInt32).toInt32)), (.int (2 : Int32)), (.ref b1)])) (fun _ zk => XS.iushr X5.here hx rfl (hb hby d1_34) rfl zk) ?_
  refine Go.st (T' := T5) (g' := (mkF m 37 #[.val (.int x), .val (.ref b1)] [(.int (15 : Int32)), (.int ((x.toUInt32 >>> ((4 : Int32) &&& 31).toUInt32).toInt32)), (.int (2 : Int32)), (.ref b1)])) (fun _ zk => XS.bipush X5.here hx rfl (hb hby d1_35) zk) ?_
  refine Go.st (T' := T5) (g' := (mkF m 38 #[.val (.int x), .val (.ref b1)] [(.int (((x.toUInt32 >>> ((4 : Int32) &&& 31).toUInt32).toInt32) &&& (15 : Int32))), (.int (2 : Int32)), (.ref b1)])) (fun _ zk => XS.iand X5.here hx rfl (hb hby d1_37) rfl zk) ?_
  obtain ⟨d2, hd2⟩ : ∃ z, z = (((x.toUInt32 >>> ((4 : Int32) &&& 31).toUInt32).toInt32) &&& (15 : Int32)) := ⟨_, rfl⟩
  rw [← hd2]
  have qd2 := own_dig hb0 4 4 (by decide) (by decide) 16 (by decide)
  rw [← hd2] at qd2
  have bd2 : 0 ≤ d2.toInt ∧ d2.toInt ≤ 15 := by omega
  refine Go.callSt (y := (⟨"com/example/tokenweave/tokenweave/core/EntryNameCompareToPinLaw", "hex", "(I)C"⟩ : MethodName)) X5 hx hZ hown e5 (w10 hw) (w11 hw) (w7 hw) (w12 hw) (by decide) (argsL := [(.int d2)]) (rest := [(.int (2 : Int32)), (.ref b1)]) (W := 2) (rm_hex l Z a0 hw [] d2 h5 n0 (Nat.le_trans Z0 (Nat.le_trans (Nat.le_trans E1.1 (Keep.of_wr W3).1) (Keep.of_wr W5).1)) bd2) rfl (lenOf pd7 rfl) rfl (by rw [hml]; rfl) rfl (by show 2 * 0 + _ ≤ _; exact Nat.le_of_eq rfl) (by decide) (by decide) (by decide) (by decide) (hb hby d1_38) ?_
  intro v6 T6 h6 L6 X6 e6 q6
  obtain ⟨c2, hv6, hx2, Nf6, hh6⟩ := q6
  subst hv6
  have E6 : T6.heap = h5 := e6.trans hh6
  have N6 := Fr.app N5 Nf6
  have hy2 := own_hx hx2 bd2
  show Go p.tables e below _ T6 (mkF m 41 #[.val (.int x), .val (.ref b1)] [(.int c2), (.int (2 : Int32)), (.ref b1)])
  obtain ⟨T7, h7, X7, e7, W7, V7, st7⟩ := stCV X6 hx hZ E6 V5' (j := (2 : Int32)) (i := 2) (by decide) rfl (Nat.le_of_ble_eq_true rfl) (g := (mkF m 41 #[.val (.int x), .val (.ref b1)] [(.int c2), (.int (2 : Int32)), (.ref b1)])) rfl rfl (hb hby d1_41)
  rw [nar_cid (x := c2) ⟨by omega, by omega⟩] at V7
  have V7' : Arv Z h7 b1 k1 .char (4 : Int32) [(.int c0), (.int c1), (.int c2), (.int (0 : Int32))] (.int (0 : Int32)) := V7
  have N7 := Fr.snoc X7 N6 (Nat.le_trans Z0 (Nat.le_trans (Nat.le_refl _) (Nat.le_of_eq g1.symm)))
  refine Go.st (T' := T7) (g' := (mkF m 42 #[.val (.int x), .val (.ref b1)] [])) (fun _ zk => st7 _ zk) ?_
  refine Go.st (T' := T7) (g' := (mkF m 43 #[.val (.int x), .val (.ref b1)] [(.ref b1)])) (fun _ zk => XS.aloadN X7.here hx rfl (hb hby d1_42) rfl rfl zk) ?_
  refine Go.st (T' := T7) (g' := (mkF m 44 #[.val (.int x), .val (.ref b1)] [(.int (3 : Int32)), (.ref b1)])) (fun _ zk => XS.iconst X7.here hx rfl (hb hby d1_43) zk) ?_
  refine Go.st (T' := T7) (g' := (mkF m 45 #[.val (.int x), .val (.ref b1)] [(.int x), (.int (3 : Int32)), (.ref b1)])) (fun _ zk => XS.iloadN X7.here hx rfl (hb hby d1_44) rfl zk) ?_
  refine Go.st (T' := T7) (g' := (mkF m 47 #[.val (.int x), .val (.ref b1)] [(.int (15 : Int32)), (.int x), (.int (3 : Int32)), (.ref b1)])) (fun _ zk => XS.bipush X7.here hx rfl (hb hby d1_45) zk) ?_
  refine Go.st (T' := T7) (g' := (mkF m 48 #[.val (.int x), .val (.ref b1)] [(.int (x &&& (15 : Int32))), (.int (3 : Int32)), (.ref b1)])) (fun _ zk => XS.iand X7.here hx rfl (hb hby d1_47) rfl zk) ?_
  obtain ⟨d3, hd3⟩ : ∃ z, z = (x &&& (15 : Int32)) := ⟨_, rfl⟩
  rw [← hd3]
  have qd3 := own_dig0 (h := x)
  rw [← hd3] at qd3
  have bd3 : 0 ≤ d3.toInt ∧ d3.toInt ≤ 15 := by omega
  refine Go.callSt (y := (⟨"com/example/tokenweave/tokenweave/core/EntryNameCompareToPinLaw", "hex", "(I)C"⟩ : MethodName)) X7 hx hZ hown e7 (w10 hw) (w11 hw) (w7 hw) (w12 hw) (by decide) (argsL := [(.int d3)]) (rest := [(.int (3 : Int32)), (.ref b1)]) (W := 2) (rm_hex l Z a0 hw [] d3 h7 n0 (Nat.le_trans Z0 (Nat.le_trans (Nat.le_trans (Nat.le_trans E1.1 (Keep.of_wr W3).1) (Keep.of_wr W5).1) (Keep.of_wr W7).1)) bd3) rfl (lenOf pd7 rfl) rfl (by rw [hml]; rfl) rfl (by show 2 * 0 + _ ≤ _; exact Nat.le_of_eq rfl) (by decide) (by decide) (by decide) (by decide) (hb hby d1_48) ?_
  intro v8 T8 h8 L8 X8 e8 q8
  obtain ⟨c3, hv8, hx3, Nf8, hh8⟩ := q8
  subst hv8
  have E8 : T8.heap = h7 := e8.trans hh8
  have N8 := Fr.app N7 Nf8
  have hy3 := own_hx hx3 bd3
  show Go p.tables e below _ T8 (mkF m 51 #[.val (.int x), .val (.ref b1)] [(.int c3), (.int (3 : Int32)), (.ref b1)])
  obtain ⟨T9, h9, X9, e9, W9, V9, st9⟩ := stCV X8 hx hZ E8 V7' (j := (3 : Int32)) (i := 3) (by decide) rfl (Nat.le_of_ble_eq_true rfl) (g := (mkF m 51 #[.val (.int x), .val (.ref b1)] [(.int c3), (.int (3 : Int32)), (.ref b1)])) rfl rfl (hb hby d1_51)
  rw [nar_cid (x := c3) ⟨by omega, by omega⟩] at V9
  have V9' : Arv Z h9 b1 k1 .char (4 : Int32) [(.int c0), (.int c1), (.int c2), (.int c3)] (.int (0 : Int32)) := V9
  have N9 := Fr.snoc X9 N8 (Nat.le_trans Z0 (Nat.le_trans (Nat.le_refl _) (Nat.le_of_eq g1.symm)))
  refine Go.st (T' := T9) (g' := (mkF m 52 #[.val (.int x), .val (.ref b1)] [])) (fun _ zk => st9 _ zk) ?_
  obtain ⟨T10, h10, X10, e10, E10, A10, D10, -, st10⟩ := newO X9 hx hZ hown (w13 hw) (w14 hw) (w15 hw) e9 (g := (mkF m 52 #[.val (.int x), .val (.ref b1)] [])) rfl (hb hby d1_52) (by decide) (by decide)
  obtain ⟨b10, g10⟩ : ∃ z, z = h9.size := ⟨_, rfl⟩
  rw [← g10] at A10 D10 st10
  have F10_coder : Fld Z h10 b10 "java/lang/String" "coder" "B" (.int (0 : Int32)) := D10 (Or.inr (w39 hw)) (ty := .byte) (by decide)
  have F10_value : Fld Z h10 b10 "java/lang/String" "value" "[B" .null := D10 (Or.inr (w41 hw)) (ty := (.array .byte)) (by decide)
  refine Go.st (T' := T10) (g' := (mkF m 55 #[.val (.int x), .val (.ref b1)] [(.ref b10)])) (fun _ zk => st10 _ zk) ?_
  refine Go.st (T' := T10) (g' := (mkF m 56 #[.val (.int x), .val (.ref b1)] [(.ref b10), (.ref b10)])) (fun _ zk => XS.dup X10.here hx rfl (hb hby d1_55) rfl rfl zk) ?_
  refine Go.st (T' := T10) (g' := (mkF m 57 #[.val (.int x), .val (.ref b1)] [(.ref b1), (.ref b10), (.ref b10)])) (fun _ zk => XS.aloadN X10.here hx rfl (hb hby d1_56) rfl rfl zk) ?_
  have xt11 : Ext h9 h10 := E10
  have f12 := V9'.ext xt11
  have xt14 : Ext h0 h10 := (((((E1.thenW W3 (Nat.le_of_eq g1.symm)).thenW W5 (Nat.le_of_eq g1.symm)).thenW W7 (Nat.le_of_eq g1.symm)).thenW W9 (Nat.le_of_eq g1.symm)).tr E10)
  have f15 := O0.ext xt14
  refine Go.callSp (y := (⟨"java/lang/String", "<init>", "([C)V"⟩ : MethodName)) (a := b10) X10 hx hZ hown e10 rfl (w16 hw) (w17 hw) (w15 hw) (w18 hw) (by decide) (argsL := [(.ref b1)]) (rest := [(.ref b10)]) (W := 1) (rm_init1_4 l Z a0 hw [] b10 b1 k1 zc c0 c1 c2 c3 h10 n0 (Nat.le_trans Z0 (Nat.le_trans (Nat.le_trans (Nat.le_trans (Nat.le_trans (Nat.le_trans E1.1 (Keep.of_wr W3).1) (Keep.of_wr W5).1) (Keep.of_wr W7).1) (Keep.of_wr W9).1) E10.1)) f15 A10 (Nat.le_trans Z0 (Nat.le_trans (Nat.le_trans (Nat.le_trans (Nat.le_trans (Nat.le_trans E1.1 (Keep.of_wr W3).1) (Keep.of_wr W5).1) (Keep.of_wr W7).1) (Keep.of_wr W9).1) (Nat.le_of_eq g10.symm))) F10_coder F10_value f12 CS hz (le255 ⟨by omega, by omega⟩) (le255 ⟨by omega, by omega⟩) (le255 ⟨by omega, by omega⟩) (le255 ⟨by omega, by omega⟩)) rfl (lenOf pd8 rfl) rfl (by rw [hml]; rfl) rfl (by show 2 * 0 + _ ≤ _; exact Nat.le_of_eq rfl) (by decide) (by decide) (by decide) (by decide) (hb hby d1_57) ?_
  intro v13 T13 h13 L13 X13 e13 q13
  obtain ⟨hv13, Nf13, K13, C13, t13, k13, ge13, F13, V13⟩ := q13
  subst hv13
  have N13 := Fr.app N9 Nf13
  show Go p.tables e below _ T13 (mkF m 60 #[.val (.int x), .val (.ref b1)] [(.ref b10)])
  have xt16 : Ext h0 h13 := (xt14.thenK K13 (allS (P := fun x => h0.size ≤ x) (Nat.le_trans (Nat.le_trans (Nat.le_trans (Nat.le_trans (Nat.le_trans E1.1 (Keep.of_wr W3).1) (Keep.of_wr W5).1) (Keep.of_wr W7).1) (Keep.of_wr W9).1) (Nat.le_of_eq g10.symm)) all0))
  have f17 := (A10.keep K13)
  refine Go.retA X13 hx hlk hret rfl rfl (hb hby d1_60) (by decide) (by decide) e13 ?_
  have V9 := V13
  rw [i2b_id (x := c0) ⟨by omega, by omega⟩, i2b_id (x := c1) ⟨by omega, by omega⟩, i2b_id (x := c2) ⟨by omega, by omega⟩, i2b_id (x := c3) ⟨by omega, by omega⟩] at V9
  exact ⟨_, c0, c1, c2, c3, rfl, N13, xt16, ⟨_, _, f17, C13, F13, V9⟩, qd0 ▸ hx0, qd1 ▸ hx1, qd2 ▸ hx2, qd3 ▸ hx3⟩
theorem d12_0 : decode jdk_2056_method_22_code 0 = .ok (.iload_n 0, 1) := by decide +kernel
theorem d12_1 : decode jdk_2056_method_22_code 1 = .ok (.iload_n 1, 1) := by decide +kernel
theorem d12_2 : decode jdk_2056_method_22_code 2 = .ok (.isub, 1) := by decide +kernel
theorem d12_3 : decode jdk_2056_method_22_code 3 = .ok (.ireturn, 1) := by decide +kernel
def rr_byteCmp : Room := { frames := 0, cells := 0, slots := 0, locals := 0 }
theorem pn9 : plainName "java/lang/Byte" = true := by first | (simp [plainName, overriddenIn]; done) | decide +kernel
set_option maxRecDepth 65536 in
set_option maxHeartbeats 40000000 in
theorem rm_byteCmp (l : Launch) (Z : State) (a0 : Array Value) (hw : ∀ d ∈ tables_1, d.before a0 Z = true) (ws : List Jvm.Cond) (a b : Int32) (h0 : Heap) (n0 : Nat) (Z0 : n0 ≤ h0.size)  :
    Con l Z (⟨"java/lang/Byte", "compare", "(BB)I"⟩ : MethodName) jdk_2056_method_22_code 2 (some .int) ws rr_byteCmp #[(.int a), (.int b)] h0 (fun v h L => v = some (.int (a - b)) ∧ Fr n0 L ∧ h = h0) := by
  refine Con.enter (plainFor_of_name pn9) ?_
  intro p e s m below meth c s₁ X0 hx hZ hby hml hret hlk hown hnm e0
  have N0 := Fr.nil n0
  refine Go.cast (g' := (mkF m 0 #[.val (.int a), .val (.int b)] [])) (by first | rfl | (simp [entryFrame, mkF, argsToLocals, Value.category]; done)) ?_
  refine Go.st (T' := s₁) (g' := (mkF m 1 #[.val (.int a), .val (.int b)] [(.int a)])) (fun _ zk => XS.iloadN X0.here hx rfl (hb hby d12_0) rfl zk) ?_
  refine Go.st (T' := s₁) (g' := (mkF m 2 #[.val (.int a), .val (.int b)] [(.int b), (.int a)])) (fun _ zk => XS.iloadN X0.here hx rfl (hb hby d12_1) rfl zk) ?_
  refine Go.st (T' := s₁) (g' := (mkF m 3 #[.val (.int a), .val (.int b)] [(.int (a - b))])) (fun _ zk => XS.isub X0.here hx rfl (hb hby d12_2) rfl zk) ?_
  refine Go.retN X0 hx hlk hret rfl (by simp) (hb hby d12_3) (by decide) (by decide) e0 ?_
  exact ⟨rfl, N0, rfl⟩
theorem d21_0 : decode jdk_33_method_40_code 0 = .ok (.iload_n 0, 1) := by decide +kernel
theorem d21_1 : decode jdk_33_method_40_code 1 = .ok (.iload_n 1, 1) := by decide +kernel
theorem d21_2 : decode jdk_33_method_40_code 2 = .ok (.if_icmp .ge 7, 3) := by decide +kernel
theorem d21_5 : decode jdk_33_method_40_code 5 = .ok (.iconst (-1), 1) := by decide +kernel
theorem d21_6 : decode jdk_33_method_40_code 6 = .ok (.goto 13, 3) := by decide +kernel
theorem d21_19 : decode jdk_33_method_40_code 19 = .ok (.ireturn, 1) := by decide +kernel
theorem d21_9 : decode jdk_33_method_40_code 9 = .ok (.iload_n 0, 1) := by decide +kernel
theorem d21_10 : decode jdk_33_method_40_code 10 = .ok (.iload_n 1, 1) := by decide +kernel
theorem d21_11 : decode jdk_33_method_40_code 11 = .ok (.if_icmp .ne 7, 3) := by decide +kernel
theorem d21_14 : decode jdk_33_method_40_code 14 = .ok (.iconst 0, 1) := by decide +kernel
theorem d21_15 : decode jdk_33_method_40_code 15 = .ok (.goto 4, 3) := by decide +kernel
theorem d21_18 : decode jdk_33_method_40_code 18 = .ok (.iconst 1, 1) := by decide +kernel
def rr_intCmp : Room := { frames := 0, cells := 0, slots := 0, locals := 0 }
theorem pn10 : plainName "java/lang/Integer" = true := by first | (simp [plainName, overriddenIn]; done) | decide +kernel
set_option maxRecDepth 65536 in
set_option maxHeartbeats 40000000 in
theorem rm_intCmp (l : Launch) (Z : State) (a0 : Array Value) (hw : ∀ d ∈ tables_1, d.before a0 Z = true) (ws : List Jvm.Cond) (a b : Int32) (h0 : Heap) (n0 : Nat) (Z0 : n0 ≤ h0.size)  :
    Con l Z (⟨"java/lang/Integer", "compare", "(II)I"⟩ : MethodName) jdk_33_method_40_code 2 (some .int) ws rr_intCmp #[(.int a), (.int b)] h0 (fun v h L => ∃ r : Int32, v = some (.int r) ∧ ((r.toInt = -1 ∧ a.toInt < b.toInt) ∨ (r.toInt = 1 ∧ b.toInt < a.toInt) ∨ (r.toInt = 0 ∧ a.toInt = b.toInt)) ∧ Fr n0 L ∧ h = h0) := by
  refine Con.enter (plainFor_of_name pn10) ?_
  intro p e s m below meth c s₁ X0 hx hZ hby hml hret hlk hown hnm e0
  have N0 := Fr.nil n0
  refine Go.cast (g' := (mkF m 0 #[.val (.int a), .val (.int b)] [])) (by first | rfl | (simp [entryFrame, mkF, argsToLocals, Value.category]; done)) ?_
  refine Go.st (T' := s₁) (g' := (mkF m 1 #[.val (.int a), .val (.int b)] [(.int a)])) (fun _ zk => XS.iloadN X0.here hx rfl (hb hby d21_0) rfl zk) ?_
  refine Go.st (T' := s₁) (g' := (mkF m 2 #[.val (.int a), .val (.int b)] [(.int b), (.int a)])) (fun _ zk => XS.iloadN X0.here hx rfl (hb hby d21_1) rfl zk) ?_
  by_cases hc2 : a < b
  · refine Go.st (T' := s₁) (g' := (mkF m 5 #[.val (.int a), .val (.int b)] [])) (fun _ zk => XS.icmpNo X0.here hx rfl (hb hby d21_2) rfl (tlt hc2).2.1 zk) ?_
    refine Go.st (T' := s₁) (g' := (mkF m 6 #[.val (.int a), .val (.int b)] [(.int (-1 : Int32))])) (fun _ zk => XS.iconst X0.here hx rfl (hb hby d21_5) zk) ?_
    refine Go.st (T' := s₁) (g' := (mkF m 19 #[.val (.int a), .val (.int b)] [(.int (-1 : Int32))])) (fun _ zk => XS.goto X0.here hx rfl (pc0 := 6) (pc' := 19) rfl (hb hby d21_6) (by decide) (by decide) zk) ?_
    refine Go.retN X0 hx hlk hret rfl (by simp) (hb hby d21_19) (by decide) (by decide) e0 ?_
    have z_hc2 := t_lt hc2
    have k0 := k_0
    have k1 := k_1
    have km := k_m1
    exact ⟨_, rfl, by omega, N0, rfl⟩
  · refine Go.st (T' := s₁) (g' := (mkF m 9 #[.val (.int a), .val (.int b)] [])) (fun _ zk => XS.icmpYes X0.here hx rfl (pc0 := 2) (pc' := 9) rfl (hb hby d21_2) rfl (flt hc2).2.1 (by decide) (by decide) zk) ?_
    refine Go.st (T' := s₁) (g' := (mkF m 10 #[.val (.int a), .val (.int b)] [(.int a)])) (fun _ zk => XS.iloadN X0.here hx rfl (hb hby d21_9) rfl zk) ?_
    refine Go.st (T' := s₁) (g' := (mkF m 11 #[.val (.int a), .val (.int b)] [(.int b), (.int a)])) (fun _ zk => XS.iloadN X0.here hx rfl (hb hby d21_10) rfl zk) ?_
    by_cases hc11 : a = b
    · refine Go.st (T' := s₁) (g' := (mkF m 14 #[.val (.int a), .val (.int b)] [])) (fun _ zk => XS.icmpNo X0.here hx rfl (hb hby d21_11) rfl (teq hc11).2 zk) ?_
      refine Go.st (T' := s₁) (g' := (mkF m 15 #[.val (.int a), .val (.int b)] [(.int (0 : Int32))])) (fun _ zk => XS.iconst X0.here hx rfl (hb hby d21_14) zk) ?_
      refine Go.st (T' := s₁) (g' := (mkF m 19 #[.val (.int a), .val (.int b)] [(.int (0 : Int32))])) (fun _ zk => XS.goto X0.here hx rfl (pc0 := 15) (pc' := 19) rfl (hb hby d21_15) (by decide) (by decide) zk) ?_
      refine Go.retN X0 hx hlk hret rfl (by simp) (hb hby d21_19) (by decide) (by decide) e0 ?_
      have z_hc11 := t_eq hc11
      have z_hc2 := t_nlt hc2
      have k0 := k_0
      have k1 := k_1
      have km := k_m1
      exact ⟨_, rfl, by omega, N0, rfl⟩
    · refine Go.st (T' := s₁) (g' := (mkF m 18 #[.val (.int a), .val (.int b)] [])) (fun _ zk => XS.icmpYes X0.here hx rfl (pc0 := 11) (pc' := 18) rfl (hb hby d21_11) rfl (feq hc11).2 (by decide) (by decide) zk) ?_
      refine Go.st (T' := s₁) (g' := (mkF m 19 #[.val (.int a), .val (.int b)] [(.int (1 : Int32))])) (fun _ zk => XS.iconst X0.here hx rfl (hb hby d21_18) zk) ?_
      refine Go.retN X0 hx hlk hret rfl (by simp) (hb hby d21_19) (by decide) (by decide) e0 ?_
      have z_hc11 := t_ne hc11
      have z_hc2 := t_nlt hc2
      have k0 := k_0
      have k1 := k_1
      have km := k_m1
      exact ⟨_, rfl, by omega, N0, rfl⟩
theorem d13_0 : decode method_4_code 0 = .ok (.iload_n 0, 1) := by decide +kernel
theorem d13_1 : decode method_4_code 1 = .ok (.ifCond .ge 7, 3) := by decide +kernel
theorem d13_4 : decode method_4_code 4 = .ok (.iconst (-1), 1) := by decide +kernel
theorem d13_5 : decode method_4_code 5 = .ok (.goto 12, 3) := by decide +kernel
theorem d13_17 : decode method_4_code 17 = .ok (.ireturn, 1) := by decide +kernel
theorem d13_8 : decode method_4_code 8 = .ok (.iload_n 0, 1) := by decide +kernel
theorem d13_9 : decode method_4_code 9 = .ok (.ifCond .le 7, 3) := by decide +kernel
theorem d13_12 : decode method_4_code 12 = .ok (.iconst 1, 1) := by decide +kernel
theorem d13_13 : decode method_4_code 13 = .ok (.goto 4, 3) := by decide +kernel
theorem d13_16 : decode method_4_code 16 = .ok (.iconst 0, 1) := by decide +kernel
def rr_sign : Room := { frames := 0, cells := 0, slots := 0, locals := 0 }
set_option maxRecDepth 65536 in
set_option maxHeartbeats 40000000 in
theorem rm_sign (l : Launch) (Z : State) (a0 : Array Value) (hw : ∀ d ∈ tables_1, d.before a0 Z = true) (ws : List Jvm.Cond) (a : Int32) (h0 : Heap) (n0 : Nat) (Z0 : n0 ≤ h0.size)  :
    Con l Z (⟨"com/example/tokenweave/tokenweave/core/EntryNameCompareToPinLaw", "sign", "(I)I"⟩ : MethodName) method_4_code 1 (some .int) ws rr_sign #[(.int a)] h0 (fun v h L => ∃ r : Int32, v = some (.int r) ∧ ((r.toInt = -1 ∧ a.toInt < 0) ∨ (r.toInt = 1 ∧ 0 < a.toInt) ∨ (r.toInt = 0 ∧ a.toInt = 0)) ∧ Fr n0 L ∧ h = h0) := by
  refine Con.enter (plainFor_of_name pn0) ?_
  intro p e s m below meth c s₁ X0 hx hZ hby hml hret hlk hown hnm e0
  have N0 := Fr.nil n0
  refine Go.cast (g' := (mkF m 0 #[.val (.int a)] [])) (by first | rfl | (simp [entryFrame, mkF, argsToLocals, Value.category]; done)) ?_
  refine Go.st (T' := s₁) (g' := (mkF m 1 #[.val (.int a)] [(.int a)])) (fun _ zk => XS.iloadN X0.here hx rfl (hb hby d13_0) rfl zk) ?_
  by_cases hc1 : a < (0 : Int32)
  · refine Go.st (T' := s₁) (g' := (mkF m 4 #[.val (.int a)] [])) (fun _ zk => XS.ifNo X0.here hx rfl (hb hby d13_1) rfl ((if0 _ _).trans (tlt hc1).2.1) zk) ?_
    refine Go.st (T' := s₁) (g' := (mkF m 5 #[.val (.int a)] [(.int (-1 : Int32))])) (fun _ zk => XS.iconst X0.here hx rfl (hb hby d13_4) zk) ?_
    refine Go.st (T' := s₁) (g' := (mkF m 17 #[.val (.int a)] [(.int (-1 : Int32))])) (fun _ zk => XS.goto X0.here hx rfl (pc0 := 5) (pc' := 17) rfl (hb hby d13_5) (by decide) (by decide) zk) ?_
    refine Go.retN X0 hx hlk hret rfl (by simp) (hb hby d13_17) (by decide) (by decide) e0 ?_
    have z_hc1 := t_lt hc1
    have k0 := k_0
    have k1 := k_1
    have km := k_m1
    exact ⟨_, rfl, by omega, N0, rfl⟩
  · refine Go.st (T' := s₁) (g' := (mkF m 8 #[.val (.int a)] [])) (fun _ zk => XS.ifYes X0.here hx rfl (pc0 := 1) (pc' := 8) rfl (hb hby d13_1) rfl ((if0 _ _).trans (flt hc1).2.1) (by decide) (by decide) zk) ?_
    refine Go.st (T' := s₁) (g' := (mkF m 9 #[.val (.int a)] [(.int a)])) (fun _ zk => XS.iloadN X0.here hx rfl (hb hby d13_8) rfl zk) ?_
    by_cases hc9 : (0 : Int32) < a
    · refine Go.st (T' := s₁) (g' := (mkF m 12 #[.val (.int a)] [])) (fun _ zk => XS.ifNo X0.here hx rfl (hb hby d13_9) rfl ((if0 _ _).trans (tlt hc9).2.2.2) zk) ?_
      refine Go.st (T' := s₁) (g' := (mkF m 13 #[.val (.int a)] [(.int (1 : Int32))])) (fun _ zk => XS.iconst X0.here hx rfl (hb hby d13_12) zk) ?_
      refine Go.st (T' := s₁) (g' := (mkF m 17 #[.val (.int a)] [(.int (1 : Int32))])) (fun _ zk => XS.goto X0.here hx rfl (pc0 := 13) (pc' := 17) rfl (hb hby d13_13) (by decide) (by decide) zk) ?_
      refine Go.retN X0 hx hlk hret rfl (by simp) (hb hby d13_17) (by decide) (by decide) e0 ?_
      have z_hc1 := t_nlt hc1
      have z_hc9 := t_lt hc9
      have k0 := k_0
      have k1 := k_1
      have km := k_m1
      exact ⟨_, rfl, by omega, N0, rfl⟩
    · refine Go.st (T' := s₁) (g' := (mkF m 16 #[.val (.int a)] [])) (fun _ zk => XS.ifYes X0.here hx rfl (pc0 := 9) (pc' := 16) rfl (hb hby d13_9) rfl ((if0 _ _).trans (flt hc9).2.2.2) (by decide) (by decide) zk) ?_
      refine Go.st (T' := s₁) (g' := (mkF m 17 #[.val (.int a)] [(.int (0 : Int32))])) (fun _ zk => XS.iconst X0.here hx rfl (hb hby d13_16) zk) ?_
      refine Go.retN X0 hx hlk hret rfl (by simp) (hb hby d13_17) (by decide) (by decide) e0 ?_
      have z_hc1 := t_nlt hc1
      have z_hc9 := t_nlt hc9
      have k0 := k_0
      have k1 := k_1
      have km := k_m1
      exact ⟨_, rfl, by omega, N0, rfl⟩
theorem d18_0 : decode jdk_29_method_69_code 0 = .ok (.iload_n 0, 1) := by decide +kernel
theorem d18_1 : decode jdk_29_method_69_code 1 = .ok (.iload_n 1, 1) := by decide +kernel
theorem d18_2 : decode jdk_29_method_69_code 2 = .ok (.if_icmp .gt 7, 3) := by decide +kernel
theorem d18_5 : decode jdk_29_method_69_code 5 = .ok (.iload_n 0, 1) := by decide +kernel
theorem d18_6 : decode jdk_29_method_69_code 6 = .ok (.goto 4, 3) := by decide +kernel
theorem d18_10 : decode jdk_29_method_69_code 10 = .ok (.ireturn, 1) := by decide +kernel
def rr_min4 : Room := { frames := 0, cells := 0, slots := 0, locals := 0 }
theorem pn11 : plainFor (⟨"java/lang/Math", "min", "(II)I"⟩ : MethodName) = true := by decide +kernel
set_option maxRecDepth 65536 in
set_option maxHeartbeats 40000000 in
theorem rm_min4 (l : Launch) (Z : State) (a0 : Array Value) (hw : ∀ d ∈ tables_1, d.before a0 Z = true) (ws : List Jvm.Cond)  (h0 : Heap) (n0 : Nat) (Z0 : n0 ≤ h0.size)  :
    Con l Z (⟨"java/lang/Math", "min", "(II)I"⟩ : MethodName) jdk_29_method_69_code 2 (some .int) ws rr_min4 #[(.int (4 : Int32)), (.int (4 : Int32))] h0 (fun v h L => v = some (.int 4) ∧ Fr n0 L ∧ h = h0) := by
  refine Con.enter (Jvm.Free.JP.mathPlain rfl (by decide +kernel)) ?_
  intro p e s m below meth c s₁ X0 hx hZ hby hml hret hlk hown hnm e0
  have N0 := Fr.nil n0
  refine Go.cast (g' := (mkF m 0 #[.val (.int (4 : Int32)), .val (.int (4 : Int32))] [])) (by first | rfl | (simp [entryFrame, mkF, argsToLocals, Value.category]; done)) ?_
  refine Go.st (T' := s₁) (g' := (mkF m 1 #[.val (.int (4 : Int32)), .val (.int (4 : Int32))] [(.int (4 : Int32))])) (fun _ zk => XS.iloadN X0.here hx rfl (hb hby d18_0) rfl zk) ?_
  refine Go.st (T' := s₁) (g' := (mkF m 2 #[.val (.int (4 : Int32)), .val (.int (4 : Int32))] [(.int (4 : Int32)), (.int (4 : Int32))])) (fun _ zk => XS.iloadN X0.here hx rfl (hb hby d18_1) rfl zk) ?_
  refine Go.st (T' := s₁) (g' := (mkF m 5 #[.val (.int (4 : Int32)), .val (.int (4 : Int32))] [])) (fun _ zk => XS.icmpNo X0.here hx rfl (hb hby d18_2) rfl (flt ((by decide) : ¬ ((4 : Int32) < (4 : Int32)))).2.2.1 zk) ?_
  refine Go.st (T' := s₁) (g' := (mkF m 6 #[.val (.int (4 : Int32)), .val (.int (4 : Int32))] [(.int (4 : Int32))])) (fun _ zk => XS.iloadN X0.here hx rfl (hb hby d18_5) rfl zk) ?_
  refine Go.st (T' := s₁) (g' := (mkF m 10 #[.val (.int (4 : Int32)), .val (.int (4 : Int32))] [(.int (4 : Int32))])) (fun _ zk => XS.goto X0.here hx rfl (pc0 := 6) (pc' := 10) rfl (hb hby d18_6) (by decide) (by decide) zk) ?_
  refine Go.retN X0 hx hlk hret rfl (by simp) (hb hby d18_10) (by decide) (by decide) e0 ?_
  exact ⟨rfl, N0, rfl⟩
theorem d15_0 : decode jdk_42_method_152_code 0 = .ok (.getstatic 38, 3) := by decide +kernel
theorem d15_3 : decode jdk_42_method_152_code 3 = .ok (.ifCond .eq 10, 3) := by decide +kernel
theorem d15_6 : decode jdk_42_method_152_code 6 = .ok (.aload_n 0, 1) := by decide +kernel
theorem d15_7 : decode jdk_42_method_152_code 7 = .ok (.getfield 15, 3) := by decide +kernel
theorem d15_10 : decode jdk_42_method_152_code 10 = .ok (.goto 4, 3) := by decide +kernel
theorem d15_14 : decode jdk_42_method_152_code 14 = .ok (.ireturn, 1) := by decide +kernel
def rr_coder : Room := { frames := 0, cells := 0, slots := 0, locals := 0 }
set_option maxRecDepth 65536 in
set_option maxHeartbeats 40000000 in
theorem rm_coder (l : Launch) (Z : State) (a0 : Array Value) (hw : ∀ d ∈ tables_1, d.before a0 Z = true) (ws : List Jvm.Cond) (a1 : Addr) (zc : Int32) (h0 : Heap) (n0 : Nat) (Z0 : n0 ≤ h0.size) (O0 : Old Z n0 h0) (F0 : Fld Z h0 a1 "java/lang/String" "coder" "B" (.int (0 : Int32))) (CS : Sta Z Z.heap "java/lang/String" "COMPACT_STRINGS" "Z" (.int zc)) (hz : ¬ zc = 0) :
    Con l Z (⟨"java/lang/String", "coder", "()B"⟩ : MethodName) jdk_42_method_152_code 1 (some .byte) ws rr_coder #[(.ref a1)] h0 (fun v h L => v = some (.int 0) ∧ Fr n0 L ∧ h = h0) := by
  refine Con.enter (plainFor_of_name pn5) ?_
  intro p e s m below meth c s₁ X0 hx hZ hby hml hret hlk hown hnm e0
  have N0 := Fr.nil n0
  refine Go.cast (g' := (mkF m 0 #[.val (.ref a1)] [])) (by first | rfl | (simp [entryFrame, mkF, argsToLocals, Value.category]; done)) ?_
  obtain ⟨T1, X1, e1, st1⟩ := getS2 X0 hx hZ hown (host := "") (Or.inl (w26 hw)) Via.refl e0 (CS.ext O0.2) (g := (mkF m 0 #[.val (.ref a1)] [])) rfl (hb hby d15_0)
  refine Go.st (T' := T1) (g' := (mkF m 3 #[.val (.ref a1)] [(.int zc)])) (fun _ zk => st1 _ zk) ?_
  refine Go.st (T' := T1) (g' := (mkF m 6 #[.val (.ref a1)] [])) (fun _ zk => XS.ifNo X1.here hx rfl (hb hby d15_3) rfl ((if0 _ _).trans (feq (hz : ¬ (zc = (0 : Int32)))).1) zk) ?_
  refine Go.st (T' := T1) (g' := (mkF m 7 #[.val (.ref a1)] [(.ref a1)])) (fun _ zk => XS.aloadN X1.here hx rfl (hb hby d15_6) rfl rfl zk) ?_
  obtain ⟨T2, X2, e2, st2⟩ := getF X1 hx hZ hown (host := "") (Or.inl (w38 hw)) Via.refl e1 F0 (g := (mkF m 7 #[.val (.ref a1)] [(.ref a1)])) rfl rfl (hb hby d15_7)
  refine Go.st (T' := T2) (g' := (mkF m 10 #[.val (.ref a1)] [(.int (0 : Int32))])) (fun _ zk => st2 _ zk) ?_
  refine Go.st (T' := T2) (g' := (mkF m 14 #[.val (.ref a1)] [(.int (0 : Int32))])) (fun _ zk => XS.goto X2.here hx rfl (pc0 := 10) (pc' := 14) rfl (hb hby d15_10) (by decide) (by decide) zk) ?_
  refine Go.retN X2 hx hlk hret rfl (by simp) (hb hby d15_14) (by decide) (by decide) e2 ?_
  exact ⟨rfl, N0, rfl⟩
theorem d20_0 : decode jdk_43_method_44_code 0 = .ok (.aload_n 0, 1) := by decide +kernel
theorem d20_1 : decode jdk_43_method_44_code 1 = .ok (.iload_n 1, 1) := by decide +kernel
theorem d20_2 : decode jdk_43_method_44_code 2 = .ok (.baload, 1) := by decide +kernel
theorem d20_3 : decode jdk_43_method_44_code 3 = .ok (.sipush 255, 3) := by decide +kernel
theorem d20_6 : decode jdk_43_method_44_code 6 = .ok (.iand, 1) := by decide +kernel
theorem d20_7 : decode jdk_43_method_44_code 7 = .ok (.i2c, 1) := by decide +kernel
theorem d20_8 : decode jdk_43_method_44_code 8 = .ok (.ireturn, 1) := by decide +kernel
def rr_getChar_0 : Room := { frames := 0, cells := 0, slots := 0, locals := 0 }
theorem pn12 : plainName "java/lang/StringLatin1" = true := by first | (simp [plainName, overriddenIn]; done) | decide +kernel
set_option maxRecDepth 65536 in
set_option maxHeartbeats 40000000 in
theorem rm_getChar_0 (l : Launch) (Z : State) (a0 : Array Value) (hw : ∀ d ∈ tables_1, d.before a0 Z = true) (ws : List Jvm.Cond) (t : Addr) (k : ClassId) (b0 b1 b2 b3 : Int32) (h0 : Heap) (n0 : Nat) (Z0 : n0 ≤ h0.size) (V1 : Arv Z h0 t k .byte (4 : Int32) [(.int b0), (.int b1), (.int b2), (.int b3)] (.int (0 : Int32))) :
    Con l Z (⟨"java/lang/StringLatin1", "getChar", "([BI)C"⟩ : MethodName) jdk_43_method_44_code 2 (some .char) ws rr_getChar_0 #[(.ref t), (.int (0 : Int32))] h0 (fun v h L => v = some (.int ((b0 &&& (255 : Int32)).toUInt32.toUInt16.toUInt32.toInt32)) ∧ Fr n0 L ∧ h = h0) := by
  refine Con.enter (plainFor_of_name pn12) ?_
  intro p e s m below meth c s₁ X0 hx hZ hby hml hret hlk hown hnm e0
  have N0 := Fr.nil n0
  refine Go.cast (g' := (mkF m 0 #[.val (.ref t), .val (.int (0 : Int32))] [])) (by first | rfl | (simp [entryFrame, mkF, argsToLocals, Value.category]; done)) ?_
  refine Go.st (T' := s₁) (g' := (mkF m 1 #[.val (.ref t), .val (.int (0 : Int32))] [(.ref t)])) (fun _ zk => XS.aloadN X0.here hx rfl (hb hby d20_0) rfl rfl zk) ?_
  refine Go.st (T' := s₁) (g' := (mkF m 2 #[.val (.ref t), .val (.int (0 : Int32))] [(.int (0 : Int32)), (.ref t)])) (fun _ zk => XS.iloadN X0.here hx rfl (hb hby d20_1) rfl zk) ?_
  refine Go.st (T' := s₁) (g' := (mkF m 3 #[.val (.ref t), .val (.int (0 : Int32))] [(.int b0)])) (fun _ zk => ldBV X0 hx hZ e0 V1 (j := (0 : Int32)) ⟨by decide, by decide⟩ (v := (.int b0)) rfl (g := (mkF m 2 #[.val (.ref t), .val (.int (0 : Int32))] [(.int (0 : Int32)), (.ref t)])) rfl (rest := []) rfl (hb hby d20_2) zk) ?_
  refine Go.st (T' := s₁) (g' := (mkF m 6 #[.val (.ref t), .val (.int (0 : Int32))] [(.int (255 : Int32)), (.int b0)])) (fun _ zk => XS.sipush X0.here hx rfl (hb hby d20_3) zk) ?_
  refine Go.st (T' := s₁) (g' := (mkF m 7 #[.val (.ref t), .val (.int (0 : Int32))] [(.int (b0 &&& (255 : Int32)))])) (fun _ zk => XS.iand X0.here hx rfl (hb hby d20_6) rfl zk) ?_
  refine Go.st (T' := s₁) (g' := (mkF m 8 #[.val (.ref t), .val (.int (0 : Int32))] [(.int ((b0 &&& (255 : Int32)).toUInt32.toUInt16.toUInt32.toInt32))])) (fun _ zk => XS.i2c X0.here hx rfl (hb hby d20_7) rfl zk) ?_
  refine Go.retN X0 hx hlk hret (congrArg Value.int nar_c) (by simp) (hb hby d20_8) (by decide) (by decide) e0 ?_
  exact ⟨rfl, N0, rfl⟩
def rr_getChar_1 : Room := { frames := 0, cells := 0, slots := 0, locals := 0 }
set_option maxRecDepth 65536 in
set_option maxHeartbeats 40000000 in
theorem rm_getChar_1 (l : Launch) (Z : State) (a0 : Array Value) (hw : ∀ d ∈ tables_1, d.before a0 Z = true) (ws : List Jvm.Cond) (t : Addr) (k : ClassId) (b0 b1 b2 b3 : Int32) (h0 : Heap) (n0 : Nat) (Z0 : n0 ≤ h0.size) (V1 : Arv Z h0 t k .byte (4 : Int32) [(.int b0), (.int b1), (.int b2), (.int b3)] (.int (0 : Int32))) :
    Con l Z (⟨"java/lang/StringLatin1", "getChar", "([BI)C"⟩ : MethodName) jdk_43_method_44_code 2 (some .char) ws rr_getChar_1 #[(.ref t), (.int (1 : Int32))] h0 (fun v h L => v = some (.int ((b1 &&& (255 : Int32)).toUInt32.toUInt16.toUInt32.toInt32)) ∧ Fr n0 L ∧ h = h0) := by
  refine Con.enter (plainFor_of_name pn12) ?_
  intro p e s m below meth c s₁ X0 hx hZ hby hml hret hlk hown hnm e0
  have N0 := Fr.nil n0
  refine Go.cast (g' := (mkF m 0 #[.val (.ref t), .val (.int (1 : Int32))] [])) (by first | rfl | (simp [entryFrame, mkF, argsToLocals, Value.category]; done)) ?_
  refine Go.st (T' := s₁) (g' := (mkF m 1 #[.val (.ref t), .val (.int (1 : Int32))] [(.ref t)])) (fun _ zk => XS.aloadN X0.here hx rfl (hb hby d20_0) rfl rfl zk) ?_
  refine Go.st (T' := s₁) (g' := (mkF m 2 #[.val (.ref t), .val (.int (1 : Int32))] [(.int (1 : Int32)), (.ref t)])) (fun _ zk => XS.iloadN X0.here hx rfl (hb hby d20_1) rfl zk) ?_
  refine Go.st (T' := s₁) (g' := (mkF m 3 #[.val (.ref t), .val (.int (1 : Int32))] [(.int b1)])) (fun _ zk => ldBV X0 hx hZ e0 V1 (j := (1 : Int32)) ⟨by decide, by decide⟩ (v := (.int b1)) rfl (g := (mkF m 2 #[.val (.ref t), .val (.int (1 : Int32))] [(.int (1 : Int32)), (.ref t)])) rfl (rest := []) rfl (hb hby d20_2) zk) ?_
  refine Go.st (T' := s₁) (g' := (mkF m 6 #[.val (.ref t), .val (.int (1 : Int32))] [(.int (255 : Int32)), (.int b1)])) (fun _ zk => XS.sipush X0.here hx rfl (hb hby d20_3) zk) ?_
  refine Go.st (T' := s₁) (g' := (mkF m 7 #[.val (.ref t), .val (.int (1 : Int32))] [(.int (b1 &&& (255 : Int32)))])) (fun _ zk => XS.iand X0.here hx rfl (hb hby d20_6) rfl zk) ?_
  refine Go.st (T' := s₁) (g' := (mkF m 8 #[.val (.ref t), .val (.int (1 : Int32))] [(.int ((b1 &&& (255 : Int32)).toUInt32.toUInt16.toUInt32.toInt32))])) (fun _ zk => XS.i2c X0.here hx rfl (hb hby d20_7) rfl zk) ?_
  refine Go.retN X0 hx hlk hret (congrArg Value.int nar_c) (by simp) (hb hby d20_8) (by decide) (by decide) e0 ?_
  exact ⟨rfl, N0, rfl⟩
def rr_getChar_2 : Room := { frames := 0, cells := 0, slots := 0, locals := 0 }
set_option maxRecDepth 65536 in
set_option maxHeartbeats 40000000 in
theorem rm_getChar_2 (l : Launch) (Z : State) (a0 : Array Value) (hw : ∀ d ∈ tables_1, d.before a0 Z = true) (ws : List Jvm.Cond) (t : Addr) (k : ClassId) (b0 b1 b2 b3 : Int32) (h0 : Heap) (n0 : Nat) (Z0 : n0 ≤ h0.size) (V1 : Arv Z h0 t k .byte (4 : Int32) [(.int b0), (.int b1), (.int b2), (.int b3)] (.int (0 : Int32))) :
    Con l Z (⟨"java/lang/StringLatin1", "getChar", "([BI)C"⟩ : MethodName) jdk_43_method_44_code 2 (some .char) ws rr_getChar_2 #[(.ref t), (.int (2 : Int32))] h0 (fun v h L => v = some (.int ((b2 &&& (255 : Int32)).toUInt32.toUInt16.toUInt32.toInt32)) ∧ Fr n0 L ∧ h = h0) := by
  refine Con.enter (plainFor_of_name pn12) ?_
  intro p e s m below meth c s₁ X0 hx hZ hby hml hret hlk hown hnm e0
  have N0 := Fr.nil n0
  refine Go.cast (g' := (mkF m 0 #[.val (.ref t), .val (.int (2 : Int32))] [])) (by first | rfl | (simp [entryFrame, mkF, argsToLocals, Value.category]; done)) ?_
  refine Go.st (T' := s₁) (g' := (mkF m 1 #[.val (.ref t), .val (.int (2 : Int32))] [(.ref t)])) (fun _ zk => XS.aloadN X0.here hx rfl (hb hby d20_0) rfl rfl zk) ?_
  refine Go.st (T' := s₁) (g' := (mkF m 2 #[.val (.ref t), .val (.int (2 : Int32))] [(.int (2 : Int32)), (.ref t)])) (fun _ zk => XS.iloadN X0.here hx rfl (hb hby d20_1) rfl zk) ?_
  refine Go.st (T' := s₁) (g' := (mkF m 3 #[.val (.ref t), .val (.int (2 : Int32))] [(.int b2)])) (fun _ zk => ldBV X0 hx hZ e0 V1 (j := (2 : Int32)) ⟨by decide, by decide⟩ (v := (.int b2)) rfl (g := (mkF m 2 #[.val (.ref t), .val (.int (2 : Int32))] [(.int (2 : Int32)), (.ref t)])) rfl (rest := []) rfl (hb hby d20_2) zk) ?_
  refine Go.st (T' := s₁) (g' := (mkF m 6 #[.val (.ref t), .val (.int (2 : Int32))] [(.int (255 : Int32)), (.int b2)])) (fun _ zk => XS.sipush X0.here hx rfl (hb hby d20_3) zk) ?_
  refine Go.st (T' := s₁) (g' := (mkF m 7 #[.val (.ref t), .val (.int (2 : Int32))] [(.int (b2 &&& (255 : Int32)))])) (fun _ zk => XS.iand X0.here hx rfl (hb hby d20_6) rfl zk) ?_
  refine Go.st (T' := s₁) (g' := (mkF m 8 #[.val (.ref t), .val (.int (2 : Int32))] [(.int ((b2 &&& (255 : Int32)).toUInt32.toUInt16.toUInt32.toInt32))])) (fun _ zk => XS.i2c X0.here hx rfl (hb hby d20_7) rfl zk) ?_
  refine Go.retN X0 hx hlk hret (congrArg Value.int nar_c) (by simp) (hb hby d20_8) (by decide) (by decide) e0 ?_
  exact ⟨rfl, N0, rfl⟩
def rr_getChar_3 : Room := { frames := 0, cells := 0, slots := 0, locals := 0 }
set_option maxRecDepth 65536 in
set_option maxHeartbeats 40000000 in
theorem rm_getChar_3 (l : Launch) (Z : State) (a0 : Array Value) (hw : ∀ d ∈ tables_1, d.before a0 Z = true) (ws : List Jvm.Cond) (t : Addr) (k : ClassId) (b0 b1 b2 b3 : Int32) (h0 : Heap) (n0 : Nat) (Z0 : n0 ≤ h0.size) (V1 : Arv Z h0 t k .byte (4 : Int32) [(.int b0), (.int b1), (.int b2), (.int b3)] (.int (0 : Int32))) :
    Con l Z (⟨"java/lang/StringLatin1", "getChar", "([BI)C"⟩ : MethodName) jdk_43_method_44_code 2 (some .char) ws rr_getChar_3 #[(.ref t), (.int (3 : Int32))] h0 (fun v h L => v = some (.int ((b3 &&& (255 : Int32)).toUInt32.toUInt16.toUInt32.toInt32)) ∧ Fr n0 L ∧ h = h0) := by
  refine Con.enter (plainFor_of_name pn12) ?_
  intro p e s m below meth c s₁ X0 hx hZ hby hml hret hlk hown hnm e0
  have N0 := Fr.nil n0
  refine Go.cast (g' := (mkF m 0 #[.val (.ref t), .val (.int (3 : Int32))] [])) (by first | rfl | (simp [entryFrame, mkF, argsToLocals, Value.category]; done)) ?_
  refine Go.st (T' := s₁) (g' := (mkF m 1 #[.val (.ref t), .val (.int (3 : Int32))] [(.ref t)])) (fun _ zk => XS.aloadN X0.here hx rfl (hb hby d20_0) rfl rfl zk) ?_
  refine Go.st (T' := s₁) (g' := (mkF m 2 #[.val (.ref t), .val (.int (3 : Int32))] [(.int (3 : Int32)), (.ref t)])) (fun _ zk => XS.iloadN X0.here hx rfl (hb hby d20_1) rfl zk) ?_
  refine Go.st (T' := s₁) (g' := (mkF m 3 #[.val (.ref t), .val (.int (3 : Int32))] [(.int b3)])) (fun _ zk => ldBV X0 hx hZ e0 V1 (j := (3 : Int32)) ⟨by decide, by decide⟩ (v := (.int b3)) rfl (g := (mkF m 2 #[.val (.ref t), .val (.int (3 : Int32))] [(.int (3 : Int32)), (.ref t)])) rfl (rest := []) rfl (hb hby d20_2) zk) ?_
  refine Go.st (T' := s₁) (g' := (mkF m 6 #[.val (.ref t), .val (.int (3 : Int32))] [(.int (255 : Int32)), (.int b3)])) (fun _ zk => XS.sipush X0.here hx rfl (hb hby d20_3) zk) ?_
  refine Go.st (T' := s₁) (g' := (mkF m 7 #[.val (.ref t), .val (.int (3 : Int32))] [(.int (b3 &&& (255 : Int32)))])) (fun _ zk => XS.iand X0.here hx rfl (hb hby d20_6) rfl zk) ?_
  refine Go.st (T' := s₁) (g' := (mkF m 8 #[.val (.ref t), .val (.int (3 : Int32))] [(.int ((b3 &&& (255 : Int32)).toUInt32.toUInt16.toUInt32.toInt32))])) (fun _ zk => XS.i2c X0.here hx rfl (hb hby d20_7) rfl zk) ?_
  refine Go.retN X0 hx hlk hret (congrArg Value.int nar_c) (by simp) (hb hby d20_8) (by decide) (by decide) e0 ?_
  exact ⟨rfl, N0, rfl⟩
theorem d19_0 : decode jdk_48_method_13_code 0 = .ok (.iconst 0, 1) := by decide +kernel
theorem d19_1 : decode jdk_48_method_13_code 1 = .ok (.istore_n 3, 1) := by decide +kernel
theorem d19_2 : decode jdk_48_method_13_code 2 = .ok (.iload_n 2, 1) := by decide +kernel
theorem d19_3 : decode jdk_48_method_13_code 3 = .ok (.bipush 7, 2) := by decide +kernel
theorem d19_5 : decode jdk_48_method_13_code 5 = .ok (.if_icmp .le 44, 3) := by decide +kernel
theorem d19_49 : decode jdk_48_method_13_code 49 = .ok (.iload_n 3, 1) := by decide +kernel
theorem d19_50 : decode jdk_48_method_13_code 50 = .ok (.iload_n 2, 1) := by decide +kernel
theorem d19_51 : decode jdk_48_method_13_code 51 = .ok (.if_icmp .ge 20, 3) := by decide +kernel
theorem d19_54 : decode jdk_48_method_13_code 54 = .ok (.aload_n 0, 1) := by decide +kernel
theorem d19_55 : decode jdk_48_method_13_code 55 = .ok (.iload_n 3, 1) := by decide +kernel
theorem d19_56 : decode jdk_48_method_13_code 56 = .ok (.baload, 1) := by decide +kernel
theorem d19_57 : decode jdk_48_method_13_code 57 = .ok (.aload_n 1, 1) := by decide +kernel
theorem d19_58 : decode jdk_48_method_13_code 58 = .ok (.iload_n 3, 1) := by decide +kernel
theorem d19_59 : decode jdk_48_method_13_code 59 = .ok (.baload, 1) := by decide +kernel
theorem d19_60 : decode jdk_48_method_13_code 60 = .ok (.if_icmp .eq 5, 3) := by decide +kernel
theorem d19_65 : decode jdk_48_method_13_code 65 = .ok (.iinc 3 1, 3) := by decide +kernel
theorem d19_68 : decode jdk_48_method_13_code 68 = .ok (.goto (-19), 3) := by decide +kernel
theorem d19_71 : decode jdk_48_method_13_code 71 = .ok (.iconst (-1), 1) := by decide +kernel
theorem d19_72 : decode jdk_48_method_13_code 72 = .ok (.ireturn, 1) := by decide +kernel
theorem d19_63 : decode jdk_48_method_13_code 63 = .ok (.iload_n 3, 1) := by decide +kernel
theorem d19_64 : decode jdk_48_method_13_code 64 = .ok (.ireturn, 1) := by decide +kernel
def rr_mismatch : Room := { frames := 0, cells := 0, slots := 0, locals := 0 }
theorem pn13 : plainName "jdk/internal/util/ArraysSupport" = true := by first | (simp [plainName, overriddenIn]; done) | decide +kernel
set_option maxRecDepth 65536 in
set_option maxHeartbeats 40000000 in
theorem rm_mismatch (l : Launch) (Z : State) (a0 : Array Value) (hw : ∀ d ∈ tables_1, d.before a0 Z = true) (ws : List Jvm.Cond) (t u : Addr) (k k' : ClassId) (b0 b1 b2 b3 d0 d1 d2 d3 : Int32) (h0 : Heap) (n0 : Nat) (Z0 : n0 ≤ h0.size) (V1 : Arv Z h0 t k .byte (4 : Int32) [(.int b0), (.int b1), (.int b2), (.int b3)] (.int (0 : Int32))) (V2 : Arv Z h0 u k' .byte (4 : Int32) [(.int d0), (.int d1), (.int d2), (.int d3)] (.int (0 : Int32))) :
    Con l Z (⟨"jdk/internal/util/ArraysSupport", "mismatch", "([B[BI)I"⟩ : MethodName) jdk_48_method_13_code 4 (some .int) ws rr_mismatch #[(.ref t), (.ref u), (.int (4 : Int32))] h0 (fun v h L => ∃ r : Int32, v = some (.int r) ∧ ((¬ b0 = d0 ∧ r = 0) ∨ (b0 = d0 ∧ ¬ b1 = d1 ∧ r = 1) ∨ (b0 = d0 ∧ b1 = d1 ∧ ¬ b2 = d2 ∧ r = 2) ∨ (b0 = d0 ∧ b1 = d1 ∧ b2 = d2 ∧ ¬ b3 = d3 ∧ r = 3) ∨ (b0 = d0 ∧ b1 = d1 ∧ b2 = d2 ∧ b3 = d3 ∧ r = -1)) ∧ Fr n0 L ∧ h = h0) := by
  refine Con.enter (plainFor_of_name pn13) ?_
  intro p e s m below meth c s₁ X0 hx hZ hby hml hret hlk hown hnm e0
  have N0 := Fr.nil n0
  refine Go.cast (g' := (mkF m 0 #[.val (.ref t), .val (.ref u), .val (.int (4 : Int32)), .unset] [])) (by first | rfl | (simp [entryFrame, mkF, argsToLocals, Value.category]; done)) ?_
  refine Go.st (T' := s₁) (g' := (mkF m 1 #[.val (.ref t), .val (.ref u), .val (.int (4 : Int32)), .unset] [(.int (0 : Int32))])) (fun _ zk => XS.iconst X0.here hx rfl (hb hby d19_0) zk) ?_
  refine Go.st (T' := s₁) (g' := (mkF m 2 #[.val (.ref t), .val (.ref u), .val (.int (4 : Int32)), .val (.int (0 : Int32))] [])) (fun _ zk => XS.istoreN X0.here hx rfl (hb hby d19_1) rfl (l' := #[.val (.ref t), .val (.ref u), .val (.int (4 : Int32)), .val (.int (0 : Int32))]) rfl zk) ?_
  refine Go.st (T' := s₁) (g' := (mkF m 3 #[.val (.ref t), .val (.ref u), .val (.int (4 : Int32)), .val (.int (0 : Int32))] [(.int (4 : Int32))])) (fun _ zk => XS.iloadN X0.here hx rfl (hb hby d19_2) rfl zk) ?_
  refine Go.st (T' := s₁) (g' := (mkF m 5 #[.val (.ref t), .val (.ref u), .val (.int (4 : Int32)), .val (.int (0 : Int32))] [(.int (7 : Int32)), (.int (4 : Int32))])) (fun _ zk => XS.bipush X0.here hx rfl (hb hby d19_3) zk) ?_
  refine Go.st (T' := s₁) (g' := (mkF m 49 #[.val (.ref t), .val (.ref u), .val (.int (4 : Int32)), .val (.int (0 : Int32))] [])) (fun _ zk => XS.icmpYes X0.here hx rfl (pc0 := 5) (pc' := 49) rfl (hb hby d19_5) rfl (flt ((by decide) : ¬ ((7 : Int32) < (4 : Int32)))).2.2.2 (by decide) (by decide) zk) ?_
  refine Go.st (T' := s₁) (g' := (mkF m 50 #[.val (.ref t), .val (.ref u), .val (.int (4 : Int32)), .val (.int (0 : Int32))] [(.int (0 : Int32))])) (fun _ zk => XS.iloadN X0.here hx rfl (hb hby d19_49) rfl zk) ?_
  refine Go.st (T' := s₁) (g' := (mkF m 51 #[.val (.ref t), .val (.ref u), .val (.int (4 : Int32)), .val (.int (0 : Int32))] [(.int (4 : Int32)), (.int (0 : Int32))])) (fun _ zk => XS.iloadN X0.here hx rfl (hb hby d19_50) rfl zk) ?_
  refine Go.st (T' := s₁) (g' := (mkF m 54 #[.val (.ref t), .val (.ref u), .val (.int (4 : Int32)), .val (.int (0 : Int32))] [])) (fun _ zk => XS.icmpNo X0.here hx rfl (hb hby d19_51) rfl (tlt ((by decide) : (0 : Int32) < (4 : Int32))).2.1 zk) ?_
  refine Go.st (T' := s₁) (g' := (mkF m 55 #[.val (.ref t), .val (.ref u), .val (.int (4 : Int32)), .val (.int (0 : Int32))] [(.ref t)])) (fun _ zk => XS.aloadN X0.here hx rfl (hb hby d19_54) rfl rfl zk) ?_
  refine Go.st (T' := s₁) (g' := (mkF m 56 #[.val (.ref t), .val (.ref u), .val (.int (4 : Int32)), .val (.int (0 : Int32))] [(.int (0 : Int32)), (.ref t)])) (fun _ zk => XS.iloadN X0.here hx rfl (hb hby d19_55) rfl zk) ?_
  refine Go.st (T' := s₁) (g' := (mkF m 57 #[.val (.ref t), .val (.ref u), .val (.int (4 : Int32)), .val (.int (0 : Int32))] [(.int b0)])) (fun _ zk => ldBV X0 hx hZ e0 V1 (j := (0 : Int32)) ⟨by decide, by decide⟩ (v := (.int b0)) rfl (g := (mkF m 56 #[.val (.ref t), .val (.ref u), .val (.int (4 : Int32)), .val (.int (0 : Int32))] [(.int (0 : Int32)), (.ref t)])) rfl (rest := []) rfl (hb hby d19_56) zk) ?_
  refine Go.st (T' := s₁) (g' := (mkF m 58 #[.val (.ref t), .val (.ref u), .val (.int (4 : Int32)), .val (.int (0 : Int32))] [(.ref u), (.int b0)])) (fun _ zk => XS.aloadN X0.here hx rfl (hb hby d19_57) rfl rfl zk) ?_
  refine Go.st (T' := s₁) (g' := (mkF m 59 #[.val (.ref t), .val (.ref u), .val (.int (4 : Int32)), .val (.int (0 : Int32))] [(.int (0 : Int32)), (.ref u), (.int b0)])) (fun _ zk => XS.iloadN X0.here hx rfl (hb hby d19_58) rfl zk) ?_
  refine Go.st (T' := s₁) (g' := (mkF m 60 #[.val (.ref t), .val (.ref u), .val (.int (4 : Int32)), .val (.int (0 : Int32))] [(.int d0), (.int b0)])) (fun _ zk => ldBV X0 hx hZ e0 V2 (j := (0 : Int32)) ⟨by decide, by decide⟩ (v := (.int d0)) rfl (g := (mkF m 59 #[.val (.ref t), .val (.ref u), .val (.int (4 : Int32)), .val (.int (0 : Int32))] [(.int (0 : Int32)), (.ref u), (.int b0)])) rfl (rest := [(.int b0)]) rfl (hb hby d19_59) zk) ?_
  by_cases hc60 : b0 = d0
  · refine Go.st (T' := s₁) (g' := (mkF m 65 #[.val (.ref t), .val (.ref u), .val (.int (4 : Int32)), .val (.int (0 : Int32))] [])) (fun _ zk => XS.icmpYes X0.here hx rfl (pc0 := 60) (pc' := 65) rfl (hb hby d19_60) rfl (teq hc60).1 (by decide) (by decide) zk) ?_
    refine Go.st (T' := s₁) (g' := (mkF m 68 #[.val (.ref t), .val (.ref u), .val (.int (4 : Int32)), .val (.int ((0 : Int32) + (1 : Int32)))] [])) (fun _ zk => XS.iinc X0.here hx rfl (hb hby d19_65) rfl (l' := #[.val (.ref t), .val (.ref u), .val (.int (4 : Int32)), .val (.int ((0 : Int32) + (1 : Int32)))]) rfl zk) ?_
    rw [show ((0 : Int32) + (1 : Int32)) = (1 : Int32) from by decide]
    refine Go.st (T' := s₁) (g' := (mkF m 49 #[.val (.ref t), .val (.ref u), .val (.int (4 : Int32)), .val (.int (1 : Int32))] [])) (fun _ zk => XS.goto X0.here hx rfl (pc0 := 68) (pc' := 49) rfl (hb hby d19_68) (by decide) (by decide) zk) ?_
    refine Go.st (T' := s₁) (g' := (mkF m 50 #[.val (.ref t), .val (.ref u), .val (.int (4 : Int32)), .val (.int (1 : Int32))] [(.int (1 : Int32))])) (fun _ zk => XS.iloadN X0.here hx rfl (hb hby d19_49) rfl zk) ?_
    refine Go.st (T' := s₁) (g' := (mkF m 51 #[.val (.ref t), .val (.ref u), .val (.int (4 : Int32)), .val (.int (1 : Int32))] [(.int (4 : Int32)), (.int (1 : Int32))])) (fun _ zk => XS.iloadN X0.here hx rfl (hb hby d19_50) rfl zk) ?_
    refine Go.st (T' := s₁) (g' := (mkF m 54 #[.val (.ref t), .val (.ref u), .val (.int (4 : Int32)), .val (.int (1 : Int32))] [])) (fun _ zk => XS.icmpNo X0.here hx rfl (hb hby d19_51) rfl (tlt ((by decide) : (1 : Int32) < (4 : Int32))).2.1 zk) ?_
    refine Go.st (T' := s₁) (g' := (mkF m 55 #[.val (.ref t), .val (.ref u), .val (.int (4 : Int32)), .val (.int (1 : Int32))] [(.ref t)])) (fun _ zk => XS.aloadN X0.here hx rfl (hb hby d19_54) rfl rfl zk) ?_
    refine Go.st (T' := s₁) (g' := (mkF m 56 #[.val (.ref t), .val (.ref u), .val (.int (4 : Int32)), .val (.int (1 : Int32))] [(.int (1 : Int32)), (.ref t)])) (fun _ zk => XS.iloadN X0.here hx rfl (hb hby d19_55) rfl zk) ?_
    refine Go.st (T' := s₁) (g' := (mkF m 57 #[.val (.ref t), .val (.ref u), .val (.int (4 : Int32)), .val (.int (1 : Int32))] [(.int b1)])) (fun _ zk => ldBV X0 hx hZ e0 V1 (j := (1 : Int32)) ⟨by decide, by decide⟩ (v := (.int b1)) rfl (g := (mkF m 56 #[.val (.ref t), .val (.ref u), .val (.int (4 : Int32)), .val (.int (1 : Int32))] [(.int (1 : Int32)), (.ref t)])) rfl (rest := []) rfl (hb hby d19_56) zk) ?_
    refine Go.st (T' := s₁) (g' := (mkF m 58 #[.val (.ref t), .val (.ref u), .val (.int (4 : Int32)), .val (.int (1 : Int32))] [(.ref u), (.int b1)])) (fun _ zk => XS.aloadN X0.here hx rfl (hb hby d19_57) rfl rfl zk) ?_
    refine Go.st (T' := s₁) (g' := (mkF m 59 #[.val (.ref t), .val (.ref u), .val (.int (4 : Int32)), .val (.int (1 : Int32))] [(.int (1 : Int32)), (.ref u), (.int b1)])) (fun _ zk => XS.iloadN X0.here hx rfl (hb hby d19_58) rfl zk) ?_
    refine Go.st (T' := s₁) (g' := (mkF m 60 #[.val (.ref t), .val (.ref u), .val (.int (4 : Int32)), .val (.int (1 : Int32))] [(.int d1), (.int b1)])) (fun _ zk => ldBV X0 hx hZ e0 V2 (j := (1 : Int32)) ⟨by decide, by decide⟩ (v := (.int d1)) rfl (g := (mkF m 59 #[.val (.ref t), .val (.ref u), .val (.int (4 : Int32)), .val (.int (1 : Int32))] [(.int (1 : Int32)), (.ref u), (.int b1)])) rfl (rest := [(.int b1)]) rfl (hb hby d19_59) zk) ?_
    by_cases hc60' : b1 = d1
    · refine Go.st (T' := s₁) (g' := (mkF m 65 #[.val (.ref t), .val (.ref u), .val (.int (4 : Int32)), .val (.int (1 : Int32))] [])) (fun _ zk => XS.icmpYes X0.here hx rfl (pc0 := 60) (pc' := 65) rfl (hb hby d19_60) rfl (teq hc60').1 (by decide) (by decide) zk) ?_
      refine Go.st (T' := s₁) (g' := (mkF m 68 #[.val (.ref t), .val (.ref u), .val (.int (4 : Int32)), .val (.int ((1 : Int32) + (1 : Int32)))] [])) (fun _ zk => XS.iinc X0.here hx rfl (hb hby d19_65) rfl (l' := #[.val (.ref t), .val (.ref u), .val (.int (4 : Int32)), .val (.int ((1 : Int32) + (1 : Int32)))]) rfl zk) ?_
      rw [show ((1 : Int32) + (1 : Int32)) = (2 : Int32) from by decide]
      refine Go.st (T' := s₁) (g' := (mkF m 49 #[.val (.ref t), .val (.ref u), .val (.int (4 : Int32)), .val (.int (2 : Int32))] [])) (fun _ zk => XS.goto X0.here hx rfl (pc0 := 68) (pc' := 49) rfl (hb hby d19_68) (by decide) (by decide) zk) ?_
      refine Go.st (T' := s₁) (g' := (mkF m 50 #[.val (.ref t), .val (.ref u), .val (.int (4 : Int32)), .val (.int (2 : Int32))] [(.int (2 : Int32))])) (fun _ zk => XS.iloadN X0.here hx rfl (hb hby d19_49) rfl zk) ?_
      refine Go.st (T' := s₁) (g' := (mkF m 51 #[.val (.ref t), .val (.ref u), .val (.int (4 : Int32)), .val (.int (2 : Int32))] [(.int (4 : Int32)), (.int (2 : Int32))])) (fun _ zk => XS.iloadN X0.here hx rfl (hb hby d19_50) rfl zk) ?_
      refine Go.st (T' := s₁) (g' := (mkF m 54 #[.val (.ref t), .val (.ref u), .val (.int (4 : Int32)), .val (.int (2 : Int32))] [])) (fun _ zk => XS.icmpNo X0.here hx rfl (hb hby d19_51) rfl (tlt ((by decide) : (2 : Int32) < (4 : Int32))).2.1 zk) ?_
      refine Go.st (T' := s₁) (g' := (mkF m 55 #[.val (.ref t), .val (.ref u), .val (.int (4 : Int32)), .val (.int (2 : Int32))] [(.ref t)])) (fun _ zk => XS.aloadN X0.here hx rfl (hb hby d19_54) rfl rfl zk) ?_
      refine Go.st (T' := s₁) (g' := (mkF m 56 #[.val (.ref t), .val (.ref u), .val (.int (4 : Int32)), .val (.int (2 : Int32))] [(.int (2 : Int32)), (.ref t)])) (fun _ zk => XS.iloadN X0.here hx rfl (hb hby d19_55) rfl zk) ?_
      refine Go.st (T' := s₁) (g' := (mkF m 57 #[.val (.ref t), .val (.ref u), .val (.int (4 : Int32)), .val (.int (2 : Int32))] [(.int b2)])) (fun _ zk => ldBV X0 hx hZ e0 V1 (j := (2 : Int32)) ⟨by decide, by decide⟩ (v := (.int b2)) rfl (g := (mkF m 56 #[.val (.ref t), .val (.ref u), .val (.int (4 : Int32)), .val (.int (2 : Int32))] [(.int (2 : Int32)), (.ref t)])) rfl (rest := []) rfl (hb hby d19_56) zk) ?_
      refine Go.st (T' := s₁) (g' := (mkF m 58 #[.val (.ref t), .val (.ref u), .val (.int (4 : Int32)), .val (.int (2 : Int32))] [(.ref u), (.int b2)])) (fun _ zk => XS.aloadN X0.here hx rfl (hb hby d19_57) rfl rfl zk) ?_
      refine Go.st (T' := s₁) (g' := (mkF m 59 #[.val (.ref t), .val (.ref u), .val (.int (4 : Int32)), .val (.int (2 : Int32))] [(.int (2 : Int32)), (.ref u), (.int b2)])) (fun _ zk => XS.iloadN X0.here hx rfl (hb hby d19_58) rfl zk) ?_
      refine Go.st (T' := s₁) (g' := (mkF m 60 #[.val (.ref t), .val (.ref u), .val (.int (4 : Int32)), .val (.int (2 : Int32))] [(.int d2), (.int b2)])) (fun _ zk => ldBV X0 hx hZ e0 V2 (j := (2 : Int32)) ⟨by decide, by decide⟩ (v := (.int d2)) rfl (g := (mkF m 59 #[.val (.ref t), .val (.ref u), .val (.int (4 : Int32)), .val (.int (2 : Int32))] [(.int (2 : Int32)), (.ref u), (.int b2)])) rfl (rest := [(.int b2)]) rfl (hb hby d19_59) zk) ?_
      by_cases hc60'' : b2 = d2
      · refine Go.st (T' := s₁) (g' := (mkF m 65 #[.val (.ref t), .val (.ref u), .val (.int (4 : Int32)), .val (.int (2 : Int32))] [])) (fun _ zk => XS.icmpYes X0.here hx rfl (pc0 := 60) (pc' := 65) rfl (hb hby d19_60) rfl (teq hc60'').1 (by decide) (by decide) zk) ?_
        refine Go.st (T' := s₁) (g' := (mkF m 68 #[.val (.ref t), .val (.ref u), .val (.int (4 : Int32)), .val (.int ((2 : Int32) + (1 : Int32)))] [])) (fun _ zk => XS.iinc X0.here hx rfl (hb hby d19_65) rfl (l' := #[.val (.ref t), .val (.ref u), .val (.int (4 : Int32)), .val (.int ((2 : Int32) + (1 : Int32)))]) rfl zk) ?_
        rw [show ((2 : Int32) + (1 : Int32)) = (3 : Int32) from by decide]
        refine Go.st (T' := s₁) (g' := (mkF m 49 #[.val (.ref t), .val (.ref u), .val (.int (4 : Int32)), .val (.int (3 : Int32))] [])) (fun _ zk => XS.goto X0.here hx rfl (pc0 := 68) (pc' := 49) rfl (hb hby d19_68) (by decide) (by decide) zk) ?_
        refine Go.st (T' := s₁) (g' := (mkF m 50 #[.val (.ref t), .val (.ref u), .val (.int (4 : Int32)), .val (.int (3 : Int32))] [(.int (3 : Int32))])) (fun _ zk => XS.iloadN X0.here hx rfl (hb hby d19_49) rfl zk) ?_
        refine Go.st (T' := s₁) (g' := (mkF m 51 #[.val (.ref t), .val (.ref u), .val (.int (4 : Int32)), .val (.int (3 : Int32))] [(.int (4 : Int32)), (.int (3 : Int32))])) (fun _ zk => XS.iloadN X0.here hx rfl (hb hby d19_50) rfl zk) ?_
        refine Go.st (T' := s₁) (g' := (mkF m 54 #[.val (.ref t), .val (.ref u), .val (.int (4 : Int32)), .val (.int (3 : Int32))] [])) (fun _ zk => XS.icmpNo X0.here hx rfl (hb hby d19_51) rfl (tlt ((by decide) : (3 : Int32) < (4 : Int32))).2.1 zk) ?_
        refine Go.st (T' := s₁) (g' := (mkF m 55 #[.val (.ref t), .val (.ref u), .val (.int (4 : Int32)), .val (.int (3 : Int32))] [(.ref t)])) (fun _ zk => XS.aloadN X0.here hx rfl (hb hby d19_54) rfl rfl zk) ?_
        refine Go.st (T' := s₁) (g' := (mkF m 56 #[.val (.ref t), .val (.ref u), .val (.int (4 : Int32)), .val (.int (3 : Int32))] [(.int (3 : Int32)), (.ref t)])) (fun _ zk => XS.iloadN X0.here hx rfl (hb hby d19_55) rfl zk) ?_
        refine Go.st (T' := s₁) (g' := (mkF m 57 #[.val (.ref t), .val (.ref u), .val (.int (4 : Int32)), .val (.int (3 : Int32))] [(.int b3)])) (fun _ zk => ldBV X0 hx hZ e0 V1 (j := (3 : Int32)) ⟨by decide, by decide⟩ (v := (.int b3)) rfl (g := (mkF m 56 #[.val (.ref t), .val (.ref u), .val (.int (4 : Int32)), .val (.int (3 : Int32))] [(.int (3 : Int32)), (.ref t)])) rfl (rest := []) rfl (hb hby d19_56) zk) ?_
        refine Go.st (T' := s₁) (g' := (mkF m 58 #[.val (.ref t), .val (.ref u), .val (.int (4 : Int32)), .val (.int (3 : Int32))] [(.ref u), (.int b3)])) (fun _ zk => XS.aloadN X0.here hx rfl (hb hby d19_57) rfl rfl zk) ?_
        refine Go.st (T' := s₁) (g' := (mkF m 59 #[.val (.ref t), .val (.ref u), .val (.int (4 : Int32)), .val (.int (3 : Int32))] [(.int (3 : Int32)), (.ref u), (.int b3)])) (fun _ zk => XS.iloadN X0.here hx rfl (hb hby d19_58) rfl zk) ?_
        refine Go.st (T' := s₁) (g' := (mkF m 60 #[.val (.ref t), .val (.ref u), .val (.int (4 : Int32)), .val (.int (3 : Int32))] [(.int d3), (.int b3)])) (fun _ zk => ldBV X0 hx hZ e0 V2 (j := (3 : Int32)) ⟨by decide, by decide⟩ (v := (.int d3)) rfl (g := (mkF m 59 #[.val (.ref t), .val (.ref u), .val (.int (4 : Int32)), .val (.int (3 : Int32))] [(.int (3 : Int32)), (.ref u), (.int b3)])) rfl (rest := [(.int b3)]) rfl (hb hby d19_59) zk) ?_
        by_cases hc60''' : b3 = d3
        · refine Go.st (T' := s₁) (g' := (mkF m 65 #[.val (.ref t), .val (.ref u), .val (.int (4 : Int32)), .val (.int (3 : Int32))] [])) (fun _ zk => XS.icmpYes X0.here hx rfl (pc0 := 60) (pc' := 65) rfl (hb hby d19_60) rfl (teq hc60''').1 (by decide) (by decide) zk) ?_
          refine Go.st (T' := s₁) (g' := (mkF m 68 #[.val (.ref t), .val (.ref u), .val (.int (4 : Int32)), .val (.int ((3 : Int32) + (1 : Int32)))] [])) (fun _ zk => XS.iinc X0.here hx rfl (hb hby d19_65) rfl (l' := #[.val (.ref t), .val (.ref u), .val (.int (4 : Int32)), .val (.int ((3 : Int32) + (1 : Int32)))]) rfl zk) ?_
          rw [show ((3 : Int32) + (1 : Int32)) = (4 : Int32) from by decide]
          refine Go.st (T' := s₁) (g' := (mkF m 49 #[.val (.ref t), .val (.ref u), .val (.int (4 : Int32)), .val (.int (4 : Int32))] [])) (fun _ zk => XS.goto X0.here hx rfl (pc0 := 68) (pc' := 49) rfl (hb hby d19_68) (by decide) (by decide) zk) ?_
          refine Go.st (T' := s₁) (g' := (mkF m 50 #[.val (.ref t), .val (.ref u), .val (.int (4 : Int32)), .val (.int (4 : Int32))] [(.int (4 : Int32))])) (fun _ zk => XS.iloadN X0.here hx rfl (hb hby d19_49) rfl zk) ?_
          refine Go.st (T' := s₁) (g' := (mkF m 51 #[.val (.ref t), .val (.ref u), .val (.int (4 : Int32)), .val (.int (4 : Int32))] [(.int (4 : Int32)), (.int (4 : Int32))])) (fun _ zk => XS.iloadN X0.here hx rfl (hb hby d19_50) rfl zk) ?_
          refine Go.st (T' := s₁) (g' := (mkF m 71 #[.val (.ref t), .val (.ref u), .val (.int (4 : Int32)), .val (.int (4 : Int32))] [])) (fun _ zk => XS.icmpYes X0.here hx rfl (pc0 := 51) (pc' := 71) rfl (hb hby d19_51) rfl (flt ((by decide) : ¬ ((4 : Int32) < (4 : Int32)))).2.1 (by decide) (by decide) zk) ?_
          refine Go.st (T' := s₁) (g' := (mkF m 72 #[.val (.ref t), .val (.ref u), .val (.int (4 : Int32)), .val (.int (4 : Int32))] [(.int (-1 : Int32))])) (fun _ zk => XS.iconst X0.here hx rfl (hb hby d19_71) zk) ?_
          refine Go.retN X0 hx hlk hret rfl (by simp) (hb hby d19_72) (by decide) (by decide) e0 ?_
          exact ⟨_, rfl, (Or.inr (Or.inr (Or.inr (Or.inr ⟨hc60, hc60', hc60'', hc60''', rfl⟩)))), N0, rfl⟩
        · refine Go.st (T' := s₁) (g' := (mkF m 63 #[.val (.ref t), .val (.ref u), .val (.int (4 : Int32)), .val (.int (3 : Int32))] [])) (fun _ zk => XS.icmpNo X0.here hx rfl (hb hby d19_60) rfl (feq hc60''').1 zk) ?_
          refine Go.st (T' := s₁) (g' := (mkF m 64 #[.val (.ref t), .val (.ref u), .val (.int (4 : Int32)), .val (.int (3 : Int32))] [(.int (3 : Int32))])) (fun _ zk => XS.iloadN X0.here hx rfl (hb hby d19_63) rfl zk) ?_
          refine Go.retN X0 hx hlk hret rfl (by simp) (hb hby d19_64) (by decide) (by decide) e0 ?_
          exact ⟨_, rfl, (Or.inr (Or.inr (Or.inr (Or.inl ⟨hc60, hc60', hc60'', hc60''', rfl⟩)))), N0, rfl⟩
      · refine Go.st (T' := s₁) (g' := (mkF m 63 #[.val (.ref t), .val (.ref u), .val (.int (4 : Int32)), .val (.int (2 : Int32))] [])) (fun _ zk => XS.icmpNo X0.here hx rfl (hb hby d19_60) rfl (feq hc60'').1 zk) ?_
        refine Go.st (T' := s₁) (g' := (mkF m 64 #[.val (.ref t), .val (.ref u), .val (.int (4 : Int32)), .val (.int (2 : Int32))] [(.int (2 : Int32))])) (fun _ zk => XS.iloadN X0.here hx rfl (hb hby d19_63) rfl zk) ?_
        refine Go.retN X0 hx hlk hret rfl (by simp) (hb hby d19_64) (by decide) (by decide) e0 ?_
        exact ⟨_, rfl, (Or.inr (Or.inr (Or.inl ⟨hc60, hc60', hc60'', rfl⟩))), N0, rfl⟩
    · refine Go.st (T' := s₁) (g' := (mkF m 63 #[.val (.ref t), .val (.ref u), .val (.int (4 : Int32)), .val (.int (1 : Int32))] [])) (fun _ zk => XS.icmpNo X0.here hx rfl (hb hby d19_60) rfl (feq hc60').1 zk) ?_
      refine Go.st (T' := s₁) (g' := (mkF m 64 #[.val (.ref t), .val (.ref u), .val (.int (4 : Int32)), .val (.int (1 : Int32))] [(.int (1 : Int32))])) (fun _ zk => XS.iloadN X0.here hx rfl (hb hby d19_63) rfl zk) ?_
      refine Go.retN X0 hx hlk hret rfl (by simp) (hb hby d19_64) (by decide) (by decide) e0 ?_
      exact ⟨_, rfl, (Or.inr (Or.inl ⟨hc60, hc60', rfl⟩)), N0, rfl⟩
  · refine Go.st (T' := s₁) (g' := (mkF m 63 #[.val (.ref t), .val (.ref u), .val (.int (4 : Int32)), .val (.int (0 : Int32))] [])) (fun _ zk => XS.icmpNo X0.here hx rfl (hb hby d19_60) rfl (feq hc60).1 zk) ?_
    refine Go.st (T' := s₁) (g' := (mkF m 64 #[.val (.ref t), .val (.ref u), .val (.int (4 : Int32)), .val (.int (0 : Int32))] [(.int (0 : Int32))])) (fun _ zk => XS.iloadN X0.here hx rfl (hb hby d19_63) rfl zk) ?_
    refine Go.retN X0 hx hlk hret rfl (by simp) (hb hby d19_64) (by decide) (by decide) e0 ?_
    exact ⟨_, rfl, (Or.inl ⟨hc60, rfl⟩), N0, rfl⟩
theorem d17_0 : decode jdk_43_method_15_code 0 = .ok (.iload_n 2, 1) := by decide +kernel
theorem d17_1 : decode jdk_43_method_15_code 1 = .ok (.iload_n 3, 1) := by decide +kernel
theorem w89 {a0 : Array Value} {Z : State} (hw : ∀ d ∈ tables_1, d.before a0 Z = true) : ((Jvm.Cond.code ({ cls := "java/lang/Math", name := "min", desc := "(II)I" } : Jvm.MethodName) jdk_29_method_69_code (2 : Nat) (Option.some Jvm.ClassFile.FieldType.int))).before a0 Z = true := hw _ (List.mem_of_getElem? (i := 89) rfl)
theorem w88 {a0 : Array Value} {Z : State} (hw : ∀ d ∈ tables_1, d.before a0 Z = true) : ((Jvm.Cond.initialized "java/lang/Math")).before a0 Z = true := hw _ (List.mem_of_getElem? (i := 88) rfl)
theorem pd14 : parseMethodDescriptor "(II)I" = some ⟨[.int, .int], some .int⟩ := by decide +kernel
theorem d17_2 : decode jdk_43_method_15_code 2 = .ok (.invokestatic 38, 3) := by decide +kernel
theorem w86 {a0 : Array Value} {Z : State} (hw : ∀ d ∈ tables_1, d.before a0 Z = true) : ((Jvm.Cond.methodLink "java/lang/StringLatin1" (38 : Nat) ({ cls := "java/lang/Math", name := "min", desc := "(II)I" } : Jvm.MethodName))).before a0 Z = true := hw _ (List.mem_of_getElem? (i := 86) rfl)
theorem w87 {a0 : Array Value} {Z : State} (hw : ∀ d ∈ tables_1, d.before a0 Z = true) : ((Jvm.Cond.static ({ cls := "java/lang/Math", name := "min", desc := "(II)I" } : Jvm.MethodName))).before a0 Z = true := hw _ (List.mem_of_getElem? (i := 87) rfl)
theorem d17_5 : decode jdk_43_method_15_code 5 = .ok (.istore 4, 2) := by decide +kernel
theorem d17_7 : decode jdk_43_method_15_code 7 = .ok (.aload_n 0, 1) := by decide +kernel
theorem d17_8 : decode jdk_43_method_15_code 8 = .ok (.aload_n 1, 1) := by decide +kernel
theorem d17_9 : decode jdk_43_method_15_code 9 = .ok (.iload 4, 2) := by decide +kernel
theorem w93 {a0 : Array Value} {Z : State} (hw : ∀ d ∈ tables_1, d.before a0 Z = true) : ((Jvm.Cond.code ({ cls := "jdk/internal/util/ArraysSupport", name := "mismatch", desc := "([B[BI)I" } : Jvm.MethodName) jdk_48_method_13_code (4 : Nat) (Option.some Jvm.ClassFile.FieldType.int))).before a0 Z = true := hw _ (List.mem_of_getElem? (i := 93) rfl)
theorem w92 {a0 : Array Value} {Z : State} (hw : ∀ d ∈ tables_1, d.before a0 Z = true) : ((Jvm.Cond.initialized "jdk/internal/util/ArraysSupport")).before a0 Z = true := hw _ (List.mem_of_getElem? (i := 92) rfl)
theorem pd15 : parseMethodDescriptor "([B[BI)I" = some ⟨[(.array .byte), (.array .byte), .int], some .int⟩ := by decide +kernel
theorem d17_11 : decode jdk_43_method_15_code 11 = .ok (.invokestatic 44, 3) := by decide +kernel
theorem w90 {a0 : Array Value} {Z : State} (hw : ∀ d ∈ tables_1, d.before a0 Z = true) : ((Jvm.Cond.methodLink "java/lang/StringLatin1" (44 : Nat) ({ cls := "jdk/internal/util/ArraysSupport", name := "mismatch", desc := "([B[BI)I" } : Jvm.MethodName))).before a0 Z = true := hw _ (List.mem_of_getElem? (i := 90) rfl)
theorem w91 {a0 : Array Value} {Z : State} (hw : ∀ d ∈ tables_1, d.before a0 Z = true) : ((Jvm.Cond.static ({ cls := "jdk/internal/util/ArraysSupport", name := "mismatch", desc := "([B[BI)I" } : Jvm.MethodName))).before a0 Z = true := hw _ (List.mem_of_getElem? (i := 91) rfl)
theorem d17_14 : decode jdk_43_method_15_code 14 = .ok (.istore 5, 2) := by decide +kernel
theorem d17_16 : decode jdk_43_method_15_code 16 = .ok (.iload 5, 2) := by decide +kernel
theorem d17_18 : decode jdk_43_method_15_code 18 = .ok (.ifCond .ge 9, 3) := by decide +kernel
theorem d17_27 : decode jdk_43_method_15_code 27 = .ok (.aload_n 0, 1) := by decide +kernel
theorem d17_28 : decode jdk_43_method_15_code 28 = .ok (.iload 5, 2) := by decide +kernel
theorem w96 {a0 : Array Value} {Z : State} (hw : ∀ d ∈ tables_1, d.before a0 Z = true) : ((Jvm.Cond.code ({ cls := "java/lang/StringLatin1", name := "getChar", desc := "([BI)C" } : Jvm.MethodName) jdk_43_method_44_code (2 : Nat) (Option.some Jvm.ClassFile.FieldType.char))).before a0 Z = true := hw _ (List.mem_of_getElem? (i := 96) rfl)
theorem w81 {a0 : Array Value} {Z : State} (hw : ∀ d ∈ tables_1, d.before a0 Z = true) : ((Jvm.Cond.initialized "java/lang/StringLatin1")).before a0 Z = true := hw _ (List.mem_of_getElem? (i := 81) rfl)
theorem pd16 : parseMethodDescriptor "([BI)C" = some ⟨[(.array .byte), .int], some .char⟩ := by decide +kernel
theorem d17_30 : decode jdk_43_method_15_code 30 = .ok (.invokestatic 50, 3) := by decide +kernel
theorem w94 {a0 : Array Value} {Z : State} (hw : ∀ d ∈ tables_1, d.before a0 Z = true) : ((Jvm.Cond.methodLink "java/lang/StringLatin1" (50 : Nat) ({ cls := "java/lang/StringLatin1", name := "getChar", desc := "([BI)C" } : Jvm.MethodName))).before a0 Z = true := hw _ (List.mem_of_getElem? (i := 94) rfl)
theorem w95 {a0 : Array Value} {Z : State} (hw : ∀ d ∈ tables_1, d.before a0 Z = true) : ((Jvm.Cond.static ({ cls := "java/lang/StringLatin1", name := "getChar", desc := "([BI)C" } : Jvm.MethodName))).before a0 Z = true := hw _ (List.mem_of_getElem? (i := 95) rfl)
theorem d17_33 : decode jdk_43_method_15_code 33 = .ok (.aload_n 1, 1) := by decide +kernel
theorem d17_34 : decode jdk_43_method_15_code 34 = .ok (.iload 5, 2) := by decide +kernel
theorem d17_36 : decode jdk_43_method_15_code 36 = .ok (.invokestatic 50, 3) := by decide +kernel
theorem d17_39 : decode jdk_43_method_15_code 39 = .ok (.isub, 1) := by decide +kernel
theorem d17_40 : decode jdk_43_method_15_code 40 = .ok (.ireturn, 1) := by decide +kernel
theorem d17_21 : decode jdk_43_method_15_code 21 = .ok (.iload_n 2, 1) := by decide +kernel
theorem d17_22 : decode jdk_43_method_15_code 22 = .ok (.iload_n 3, 1) := by decide +kernel
theorem d17_23 : decode jdk_43_method_15_code 23 = .ok (.isub, 1) := by decide +kernel
theorem d17_24 : decode jdk_43_method_15_code 24 = .ok (.goto 16, 3) := by decide +kernel
def rr_cmp4 : Room := { frames := 1, cells := 0, slots := 0, locals := 15 }
set_option maxRecDepth 65536 in
set_option maxHeartbeats 40000000 in
theorem rm_cmp4 (l : Launch) (Z : State) (a0 : Array Value) (hw : ∀ d ∈ tables_1, d.before a0 Z = true) (ws : List Jvm.Cond) (t u : Addr) (k k' : ClassId) (b0 b1 b2 b3 d0 d1 d2 d3 : Int32) (h0 : Heap) (n0 : Nat) (Z0 : n0 ≤ h0.size) (V1 : Arv Z h0 t k .byte (4 : Int32) [(.int b0), (.int b1), (.int b2), (.int b3)] (.int (0 : Int32))) (V2 : Arv Z h0 u k' .byte (4 : Int32) [(.int d0), (.int d1), (.int d2), (.int d3)] (.int (0 : Int32))) :
    Con l Z (⟨"java/lang/StringLatin1", "compareTo", "([B[BII)I"⟩ : MethodName) jdk_43_method_15_code 6 (some .int) ws rr_cmp4 #[(.ref t), (.ref u), (.int (4 : Int32)), (.int (4 : Int32))] h0 (fun v h L => ∃ r : Int32, v = some (.int r) ∧ ((¬ b0 = d0 ∧ r = ((b0 &&& (255 : Int32)).toUInt32.toUInt16.toUInt32.toInt32) - ((d0 &&& (255 : Int32)).toUInt32.toUInt16.toUInt32.toInt32)) ∨ (b0 = d0 ∧ ¬ b1 = d1 ∧ r = ((b1 &&& (255 : Int32)).toUInt32.toUInt16.toUInt32.toInt32) - ((d1 &&& (255 : Int32)).toUInt32.toUInt16.toUInt32.toInt32)) ∨ (b0 = d0 ∧ b1 = d1 ∧ ¬ b2 = d2 ∧ r = ((b2 &&& (255 : Int32)).toUInt32.toUInt16.toUInt32.toInt32) - ((d2 &&& (255 : Int32)).toUInt32.toUInt16.toUInt32.toInt32)) ∨ (b0 = d0 ∧ b1 = d1 ∧ b2 = d2 ∧ ¬ b3 = d3 ∧ r = ((b3 &&& (255 : Int32)).toUInt32.toUInt16.toUInt32.toInt32) - ((d3 &&& (255 : Int32)).toUInt32.toUInt16.toUInt32.toInt32)) ∨ (b0 = d0 ∧ b1 = d1 ∧ b2 = d2 ∧ b3 = d3 ∧ r = 0)) ∧ Fr n0 L ∧ h = h0) := by
  refine Con.enter (plainFor_of_name pn12) ?_
  intro p e s m below meth c s₁ X0 hx hZ hby hml hret hlk hown hnm e0
  have N0 := Fr.nil n0
  refine Go.cast (g' := (mkF m 0 #[.val (.ref t), .val (.ref u), .val (.int (4 : Int32)), .val (.int (4 : Int32)), .unset, .unset] [])) (by first | rfl | (simp [entryFrame, mkF, argsToLocals, Value.category]; done)) ?_
  refine Go.st (T' := s₁) (g' := (mkF m 1 #[.val (.ref t), .val (.ref u), .val (.int (4 : Int32)), .val (.int (4 : Int32)), .unset, .unset] [(.int (4 : Int32))])) (fun _ zk => XS.iloadN X0.here hx rfl (hb hby d17_0) rfl zk) ?_
  refine Go.st (T' := s₁) (g' := (mkF m 2 #[.val (.ref t), .val (.ref u), .val (.int (4 : Int32)), .val (.int (4 : Int32)), .unset, .unset] [(.int (4 : Int32)), (.int (4 : Int32))])) (fun _ zk => XS.iloadN X0.here hx rfl (hb hby d17_1) rfl zk) ?_
  refine Go.callSt (y := (⟨"java/lang/Math", "min", "(II)I"⟩ : MethodName)) X0 hx hZ hown e0 (w86 hw) (w87 hw) (w88 hw) (w89 hw) (by decide) (argsL := [(.int (4 : Int32)), (.int (4 : Int32))]) (rest := []) (W := 0) (rm_min4 l Z a0 hw []  h0 n0 Z0 ) rfl (lenOf pd14 rfl) rfl (by rw [hml]; rfl) rfl (by show 2 * 0 + _ ≤ _; exact Nat.le_of_eq rfl) (by decide) (by decide) (by decide) (by decide) (hb hby d17_2) ?_
  intro v1 T1 h1 L1 X1 e1 q1
  obtain ⟨hv1, Nf1, hh1⟩ := q1
  subst hv1
  have E1 : T1.heap = h0 := e1.trans hh1
  have N1 := Fr.app N0 Nf1
  show Go p.tables e below _ T1 (mkF m 5 #[.val (.ref t), .val (.ref u), .val (.int (4 : Int32)), .val (.int (4 : Int32)), .unset, .unset] [(.int (4 : Int32))])
  refine Go.st (T' := T1) (g' := (mkF m 7 #[.val (.ref t), .val (.ref u), .val (.int (4 : Int32)), .val (.int (4 : Int32)), .val (.int (4 : Int32)), .unset] [])) (fun _ zk => XS.istore X1.here hx rfl (hb hby d17_5) rfl (l' := #[.val (.ref t), .val (.ref u), .val (.int (4 : Int32)), .val (.int (4 : Int32)), .val (.int (4 : Int32)), .unset]) rfl zk) ?_
  refine Go.st (T' := T1) (g' := (mkF m 8 #[.val (.ref t), .val (.ref u), .val (.int (4 : Int32)), .val (.int (4 : Int32)), .val (.int (4 : Int32)), .unset] [(.ref t)])) (fun _ zk => XS.aloadN X1.here hx rfl (hb hby d17_7) rfl rfl zk) ?_
  refine Go.st (T' := T1) (g' := (mkF m 9 #[.val (.ref t), .val (.ref u), .val (.int (4 : Int32)), .val (.int (4 : Int32)), .val (.int (4 : Int32)), .unset] [(.ref u), (.ref t)])) (fun _ zk => XS.aloadN X1.here hx rfl (hb hby d17_8) rfl rfl zk) ?_
  refine Go.st (T' := T1) (g' := (mkF m 11 #[.val (.ref t), .val (.ref u), .val (.int (4 : Int32)), .val (.int (4 : Int32)), .val (.int (4 : Int32)), .unset] [(.int (4 : Int32)), (.ref u), (.ref t)])) (fun _ zk => XS.iload X1.here hx rfl (hb hby d17_9) rfl zk) ?_
  refine Go.callSt (y := (⟨"jdk/internal/util/ArraysSupport", "mismatch", "([B[BI)I"⟩ : MethodName)) X1 hx hZ hown E1 (w90 hw) (w91 hw) (w92 hw) (w93 hw) (by decide) (argsL := [(.ref t), (.ref u), (.int (4 : Int32))]) (rest := []) (W := 0) (rm_mismatch l Z a0 hw [] t u k k' b0 b1 b2 b3 d0 d1 d2 d3 h0 n0 Z0 V1 V2) rfl (lenOf pd15 rfl) rfl (by rw [hml]; rfl) rfl (by show 2 * 0 + _ ≤ _; exact Nat.le_of_eq rfl) (by decide) (by decide) (by decide) (by decide) (hb hby d17_11) ?_
  intro v2 T2 h2 L2 X2 e2 q2
  obtain ⟨r2, hv2, hr2, Nf2, hh2⟩ := q2
  subst hv2
  have E2 : T2.heap = h0 := e2.trans hh2
  have N2 := Fr.app N1 Nf2
  show Go p.tables e below _ T2 (mkF m 14 #[.val (.ref t), .val (.ref u), .val (.int (4 : Int32)), .val (.int (4 : Int32)), .val (.int (4 : Int32)), .unset] [(.int r2)])
  rcases hr2 with ⟨m0, rfl⟩ | ⟨m0, m1, rfl⟩ | ⟨m0, m1, m2, rfl⟩ | ⟨m0, m1, m2, m3, rfl⟩ | ⟨m0, m1, m2, m3, rfl⟩
  · refine Go.st (T' := T2) (g' := (mkF m 16 #[.val (.ref t), .val (.ref u), .val (.int (4 : Int32)), .val (.int (4 : Int32)), .val (.int (4 : Int32)), .val (.int (0 : Int32))] [])) (fun _ zk => XS.istore X2.here hx rfl (hb hby d17_14) rfl (l' := #[.val (.ref t), .val (.ref u), .val (.int (4 : Int32)), .val (.int (4 : Int32)), .val (.int (4 : Int32)), .val (.int (0 : Int32))]) rfl zk) ?_
    refine Go.st (T' := T2) (g' := (mkF m 18 #[.val (.ref t), .val (.ref u), .val (.int (4 : Int32)), .val (.int (4 : Int32)), .val (.int (4 : Int32)), .val (.int (0 : Int32))] [(.int (0 : Int32))])) (fun _ zk => XS.iload X2.here hx rfl (hb hby d17_16) rfl zk) ?_
    refine Go.st (T' := T2) (g' := (mkF m 27 #[.val (.ref t), .val (.ref u), .val (.int (4 : Int32)), .val (.int (4 : Int32)), .val (.int (4 : Int32)), .val (.int (0 : Int32))] [])) (fun _ zk => XS.ifYes X2.here hx rfl (pc0 := 18) (pc' := 27) rfl (hb hby d17_18) rfl ((if0 _ _).trans (flt ((by decide) : ¬ ((0 : Int32) < (0 : Int32)))).2.1) (by decide) (by decide) zk) ?_
    refine Go.st (T' := T2) (g' := (mkF m 28 #[.val (.ref t), .val (.ref u), .val (.int (4 : Int32)), .val (.int (4 : Int32)), .val (.int (4 : Int32)), .val (.int (0 : Int32))] [(.ref t)])) (fun _ zk => XS.aloadN X2.here hx rfl (hb hby d17_27) rfl rfl zk) ?_
    refine Go.st (T' := T2) (g' := (mkF m 30 #[.val (.ref t), .val (.ref u), .val (.int (4 : Int32)), .val (.int (4 : Int32)), .val (.int (4 : Int32)), .val (.int (0 : Int32))] [(.int (0 : Int32)), (.ref t)])) (fun _ zk => XS.iload X2.here hx rfl (hb hby d17_28) rfl zk) ?_
    refine Go.callSt (y := (⟨"java/lang/StringLatin1", "getChar", "([BI)C"⟩ : MethodName)) X2 hx hZ hown E2 (w94 hw) (w95 hw) (w81 hw) (w96 hw) (by decide) (argsL := [(.ref t), (.int (0 : Int32))]) (rest := []) (W := 0) (rm_getChar_0 l Z a0 hw [] t k b0 b1 b2 b3 h0 n0 Z0 V1) rfl (lenOf pd16 rfl) rfl (by rw [hml]; rfl) rfl (by show 2 * 0 + _ ≤ _; exact Nat.le_of_eq rfl) (by decide) (by decide) (by decide) (by decide) (hb hby d17_30) ?_
    intro v3 T3 h3 L3 X3 e3 q3
    obtain ⟨hv3, Nf3, hh3⟩ := q3
    subst hv3
    have E3 : T3.heap = h0 := e3.trans hh3
    have N3 := Fr.app N2 Nf3
    show Go p.tables e below _ T3 (mkF m 33 #[.val (.ref t), .val (.ref u), .val (.int (4 : Int32)), .val (.int (4 : Int32)), .val (.int (4 : Int32)), .val (.int (0 : Int32))] [(.int ((b0 &&& (255 : Int32)).toUInt32.toUInt16.toUInt32.toInt32))])
    refine Go.st (T' := T3) (g' := (mkF m 34 #[.val (.ref t), .val (.ref u), .val (.int (4 : Int32)), .val (.int (4 : Int32)), .val (.int (4 : Int32)), .val (.int (0 : Int32))] [(.ref u), (.int ((b0 &&& (255 : Int32)).toUInt32.toUInt16.toUInt32.toInt32))])) (fun _ zk => XS.aloadN X3.here hx rfl (hb hby d17_33) rfl rfl zk) ?_
    refine Go.st (T' := T3) (g' := (mkF m 36 #[.val (.ref t), .val (.ref u), .val (.int (4 : Int32)), .val (.int (4 : Int32)), .val (.int (4 : Int32)), .val (.int (0 : Int32))] [(.int (0 : Int32)), (.ref u), (.int ((b0 &&& (255 : Int32)).toUInt32.toUInt16.toUInt32.toInt32))])) (fun _ zk => XS.iload X3.here hx rfl (hb hby d17_34) rfl zk) ?_
    refine Go.callSt (y := (⟨"java/lang/StringLatin1", "getChar", "([BI)C"⟩ : MethodName)) X3 hx hZ hown E3 (w94 hw) (w95 hw) (w81 hw) (w96 hw) (by decide) (argsL := [(.ref u), (.int (0 : Int32))]) (rest := [(.int ((b0 &&& (255 : Int32)).toUInt32.toUInt16.toUInt32.toInt32))]) (W := 1) (rm_getChar_0 l Z a0 hw [] u k' d0 d1 d2 d3 h0 n0 Z0 V2) rfl (lenOf pd16 rfl) rfl (by rw [hml]; rfl) rfl (by show 2 * 0 + _ ≤ _; exact Nat.le_of_eq rfl) (by decide) (by decide) (by decide) (by decide) (hb hby d17_36) ?_
    intro v4 T4 h4 L4 X4 e4 q4
    obtain ⟨hv4, Nf4, hh4⟩ := q4
    subst hv4
    have E4 : T4.heap = h0 := e4.trans hh4
    have N4 := Fr.app N3 Nf4
    show Go p.tables e below _ T4 (mkF m 39 #[.val (.ref t), .val (.ref u), .val (.int (4 : Int32)), .val (.int (4 : Int32)), .val (.int (4 : Int32)), .val (.int (0 : Int32))] [(.int ((d0 &&& (255 : Int32)).toUInt32.toUInt16.toUInt32.toInt32)), (.int ((b0 &&& (255 : Int32)).toUInt32.toUInt16.toUInt32.toInt32))])
    refine Go.st (T' := T4) (g' := (mkF m 40 #[.val (.ref t), .val (.ref u), .val (.int (4 : Int32)), .val (.int (4 : Int32)), .val (.int (4 : Int32)), .val (.int (0 : Int32))] [(.int (((b0 &&& (255 : Int32)).toUInt32.toUInt16.toUInt32.toInt32) - ((d0 &&& (255 : Int32)).toUInt32.toUInt16.toUInt32.toInt32)))])) (fun _ zk => XS.isub X4.here hx rfl (hb hby d17_39) rfl zk) ?_
    refine Go.retN X4 hx hlk hret rfl (by simp) (hb hby d17_40) (by decide) (by decide) E4 ?_
    exact ⟨_, rfl, (Or.inl ⟨m0, rfl⟩), N4, rfl⟩
  · refine Go.st (T' := T2) (g' := (mkF m 16 #[.val (.ref t), .val (.ref u), .val (.int (4 : Int32)), .val (.int (4 : Int32)), .val (.int (4 : Int32)), .val (.int (1 : Int32))] [])) (fun _ zk => XS.istore X2.here hx rfl (hb hby d17_14) rfl (l' := #[.val (.ref t), .val (.ref u), .val (.int (4 : Int32)), .val (.int (4 : Int32)), .val (.int (4 : Int32)), .val (.int (1 : Int32))]) rfl zk) ?_
    refine Go.st (T' := T2) (g' := (mkF m 18 #[.val (.ref t), .val (.ref u), .val (.int (4 : Int32)), .val (.int (4 : Int32)), .val (.int (4 : Int32)), .val (.int (1 : Int32))] [(.int (1 : Int32))])) (fun _ zk => XS.iload X2.here hx rfl (hb hby d17_16) rfl zk) ?_
    refine Go.st (T' := T2) (g' := (mkF m 27 #[.val (.ref t), .val (.ref u), .val (.int (4 : Int32)), .val (.int (4 : Int32)), .val (.int (4 : Int32)), .val (.int (1 : Int32))] [])) (fun _ zk => XS.ifYes X2.here hx rfl (pc0 := 18) (pc' := 27) rfl (hb hby d17_18) rfl ((if0 _ _).trans (flt ((by decide) : ¬ ((1 : Int32) < (0 : Int32)))).2.1) (by decide) (by decide) zk) ?_
    refine Go.st (T' := T2) (g' := (mkF m 28 #[.val (.ref t), .val (.ref u), .val (.int (4 : Int32)), .val (.int (4 : Int32)), .val (.int (4 : Int32)), .val (.int (1 : Int32))] [(.ref t)])) (fun _ zk => XS.aloadN X2.here hx rfl (hb hby d17_27) rfl rfl zk) ?_
    refine Go.st (T' := T2) (g' := (mkF m 30 #[.val (.ref t), .val (.ref u), .val (.int (4 : Int32)), .val (.int (4 : Int32)), .val (.int (4 : Int32)), .val (.int (1 : Int32))] [(.int (1 : Int32)), (.ref t)])) (fun _ zk => XS.iload X2.here hx rfl (hb hby d17_28) rfl zk) ?_
    refine Go.callSt (y := (⟨"java/lang/StringLatin1", "getChar", "([BI)C"⟩ : MethodName)) X2 hx hZ hown E2 (w94 hw) (w95 hw) (w81 hw) (w96 hw) (by decide) (argsL := [(.ref t), (.int (1 : Int32))]) (rest := []) (W := 0) (rm_getChar_1 l Z a0 hw [] t k b0 b1 b2 b3 h0 n0 Z0 V1) rfl (lenOf pd16 rfl) rfl (by rw [hml]; rfl) rfl (by show 2 * 0 + _ ≤ _; exact Nat.le_of_eq rfl) (by decide) (by decide) (by decide) (by decide) (hb hby d17_30) ?_
    intro v5 T5 h5 L5 X5 e5 q5
    obtain ⟨hv5, Nf5, hh5⟩ := q5
    subst hv5
    have E5 : T5.heap = h0 := e5.trans hh5
    have N5 := Fr.app N2 Nf5
    show Go p.tables e below _ T5 (mkF m 33 #[.val (.ref t), .val (.ref u), .val (.int (4 : Int32)), .val (.int (4 : Int32)), .val (.int (4 : Int32)), .val (.int (1 : Int32))] [(.int ((b1 &&& (255 : Int32)).toUInt32.toUInt16.toUInt32.toInt32))])
    refine Go.st (T' := T5) (g' := (mkF m 34 #[.val (.ref t), .val (.ref u), .val (.int (4 : Int32)), .val (.int (4 : Int32)), .val (.int (4 : Int32)), .val (.int (1 : Int32))] [(.ref u), (.int ((b1 &&& (255 : Int32)).toUInt32.toUInt16.toUInt32.toInt32))])) (fun _ zk => XS.aloadN X5.here hx rfl (hb hby d17_33) rfl rfl zk) ?_
    refine Go.st (T' := T5) (g' := (mkF m 36 #[.val (.ref t), .val (.ref u), .val (.int (4 : Int32)), .val (.int (4 : Int32)), .val (.int (4 : Int32)), .val (.int (1 : Int32))] [(.int (1 : Int32)), (.ref u), (.int ((b1 &&& (255 : Int32)).toUInt32.toUInt16.toUInt32.toInt32))])) (fun _ zk => XS.iload X5.here hx rfl (hb hby d17_34) rfl zk) ?_
    refine Go.callSt (y := (⟨"java/lang/StringLatin1", "getChar", "([BI)C"⟩ : MethodName)) X5 hx hZ hown E5 (w94 hw) (w95 hw) (w81 hw) (w96 hw) (by decide) (argsL := [(.ref u), (.int (1 : Int32))]) (rest := [(.int ((b1 &&& (255 : Int32)).toUInt32.toUInt16.toUInt32.toInt32))]) (W := 1) (rm_getChar_1 l Z a0 hw [] u k' d0 d1 d2 d3 h0 n0 Z0 V2) rfl (lenOf pd16 rfl) rfl (by rw [hml]; rfl) rfl (by show 2 * 0 + _ ≤ _; exact Nat.le_of_eq rfl) (by decide) (by decide) (by decide) (by decide) (hb hby d17_36) ?_
    intro v6 T6 h6 L6 X6 e6 q6
    obtain ⟨hv6, Nf6, hh6⟩ := q6
    subst hv6
    have E6 : T6.heap = h0 := e6.trans hh6
    have N6 := Fr.app N5 Nf6
    show Go p.tables e below _ T6 (mkF m 39 #[.val (.ref t), .val (.ref u), .val (.int (4 : Int32)), .val (.int (4 : Int32)), .val (.int (4 : Int32)), .val (.int (1 : Int32))] [(.int ((d1 &&& (255 : Int32)).toUInt32.toUInt16.toUInt32.toInt32)), (.int ((b1 &&& (255 : Int32)).toUInt32.toUInt16.toUInt32.toInt32))])
    refine Go.st (T' := T6) (g' := (mkF m 40 #[.val (.ref t), .val (.ref u), .val (.int (4 : Int32)), .val (.int (4 : Int32)), .val (.int (4 : Int32)), .val (.int (1 : Int32))] [(.int (((b1 &&& (255 : Int32)).toUInt32.toUInt16.toUInt32.toInt32) - ((d1 &&& (255 : Int32)).toUInt32.toUInt16.toUInt32.toInt32)))])) (fun _ zk => XS.isub X6.here hx rfl (hb hby d17_39) rfl zk) ?_
    refine Go.retN X6 hx hlk hret rfl (by simp) (hb hby d17_40) (by decide) (by decide) E6 ?_
    exact ⟨_, rfl, (Or.inr (Or.inl ⟨m0, m1, rfl⟩)), N6, rfl⟩
  · refine Go.st (T' := T2) (g' := (mkF m 16 #[.val (.ref t), .val (.ref u), .val (.int (4 : Int32)), .val (.int (4 : Int32)), .val (.int (4 : Int32)), .val (.int (2 : Int32))] [])) (fun _ zk => XS.istore X2.here hx rfl (hb hby d17_14) rfl (l' := #[.val (.ref t), .val (.ref u), .val (.int (4 : Int32)), .val (.int (4 : Int32)), .val (.int (4 : Int32)), .val (.int (2 : Int32))]) rfl zk) ?_
    refine Go.st (T' := T2) (g' := (mkF m 18 #[.val (.ref t), .val (.ref u), .val (.int (4 : Int32)), .val (.int (4 : Int32)), .val (.int (4 : Int32)), .val (.int (2 : Int32))] [(.int (2 : Int32))])) (fun _ zk => XS.iload X2.here hx rfl (hb hby d17_16) rfl zk) ?_
    refine Go.st (T' := T2) (g' := (mkF m 27 #[.val (.ref t), .val (.ref u), .val (.int (4 : Int32)), .val (.int (4 : Int32)), .val (.int (4 : Int32)), .val (.int (2 : Int32))] [])) (fun _ zk => XS.ifYes X2.here hx rfl (pc0 := 18) (pc' := 27) rfl (hb hby d17_18) rfl ((if0 _ _).trans (flt ((by decide) : ¬ ((2 : Int32) < (0 : Int32)))).2.1) (by decide) (by decide) zk) ?_
    refine Go.st (T' := T2) (g' := (mkF m 28 #[.val (.ref t), .val (.ref u), .val (.int (4 : Int32)), .val (.int (4 : Int32)), .val (.int (4 : Int32)), .val (.int (2 : Int32))] [(.ref t)])) (fun _ zk => XS.aloadN X2.here hx rfl (hb hby d17_27) rfl rfl zk) ?_
    refine Go.st (T' := T2) (g' := (mkF m 30 #[.val (.ref t), .val (.ref u), .val (.int (4 : Int32)), .val (.int (4 : Int32)), .val (.int (4 : Int32)), .val (.int (2 : Int32))] [(.int (2 : Int32)), (.ref t)])) (fun _ zk => XS.iload X2.here hx rfl (hb hby d17_28) rfl zk) ?_
    refine Go.callSt (y := (⟨"java/lang/StringLatin1", "getChar", "([BI)C"⟩ : MethodName)) X2 hx hZ hown E2 (w94 hw) (w95 hw) (w81 hw) (w96 hw) (by decide) (argsL := [(.ref t), (.int (2 : Int32))]) (rest := []) (W := 0) (rm_getChar_2 l Z a0 hw [] t k b0 b1 b2 b3 h0 n0 Z0 V1) rfl (lenOf pd16 rfl) rfl (by rw [hml]; rfl) rfl (by show 2 * 0 + _ ≤ _; exact Nat.le_of_eq rfl) (by decide) (by decide) (by decide) (by decide) (hb hby d17_30) ?_
    intro v7 T7 h7 L7 X7 e7 q7
    obtain ⟨hv7, Nf7, hh7⟩ := q7
    subst hv7
    have E7 : T7.heap = h0 := e7.trans hh7
    have N7 := Fr.app N2 Nf7
    show Go p.tables e below _ T7 (mkF m 33 #[.val (.ref t), .val (.ref u), .val (.int (4 : Int32)), .val (.int (4 : Int32)), .val (.int (4 : Int32)), .val (.int (2 : Int32))] [(.int ((b2 &&& (255 : Int32)).toUInt32.toUInt16.toUInt32.toInt32))])
    refine Go.st (T' := T7) (g' := (mkF m 34 #[.val (.ref t), .val (.ref u), .val (.int (4 : Int32)), .val (.int (4 : Int32)), .val (.int (4 : Int32)), .val (.int (2 : Int32))] [(.ref u), (.int ((b2 &&& (255 : Int32)).toUInt32.toUInt16.toUInt32.toInt32))])) (fun _ zk => XS.aloadN X7.here hx rfl (hb hby d17_33) rfl rfl zk) ?_
    refine Go.st (T' := T7) (g' := (mkF m 36 #[.val (.ref t), .val (.ref u), .val (.int (4 : Int32)), .val (.int (4 : Int32)), .val (.int (4 : Int32)), .val (.int (2 : Int32))] [(.int (2 : Int32)), (.ref u), (.int ((b2 &&& (255 : Int32)).toUInt32.toUInt16.toUInt32.toInt32))])) (fun _ zk => XS.iload X7.here hx rfl (hb hby d17_34) rfl zk) ?_
    refine Go.callSt (y := (⟨"java/lang/StringLatin1", "getChar", "([BI)C"⟩ : MethodName)) X7 hx hZ hown E7 (w94 hw) (w95 hw) (w81 hw) (w96 hw) (by decide) (argsL := [(.ref u), (.int (2 : Int32))]) (rest := [(.int ((b2 &&& (255 : Int32)).toUInt32.toUInt16.toUInt32.toInt32))]) (W := 1) (rm_getChar_2 l Z a0 hw [] u k' d0 d1 d2 d3 h0 n0 Z0 V2) rfl (lenOf pd16 rfl) rfl (by rw [hml]; rfl) rfl (by show 2 * 0 + _ ≤ _; exact Nat.le_of_eq rfl) (by decide) (by decide) (by decide) (by decide) (hb hby d17_36) ?_
    intro v8 T8 h8 L8 X8 e8 q8
    obtain ⟨hv8, Nf8, hh8⟩ := q8
    subst hv8
    have E8 : T8.heap = h0 := e8.trans hh8
    have N8 := Fr.app N7 Nf8
    show Go p.tables e below _ T8 (mkF m 39 #[.val (.ref t), .val (.ref u), .val (.int (4 : Int32)), .val (.int (4 : Int32)), .val (.int (4 : Int32)), .val (.int (2 : Int32))] [(.int ((d2 &&& (255 : Int32)).toUInt32.toUInt16.toUInt32.toInt32)), (.int ((b2 &&& (255 : Int32)).toUInt32.toUInt16.toUInt32.toInt32))])
    refine Go.st (T' := T8) (g' := (mkF m 40 #[.val (.ref t), .val (.ref u), .val (.int (4 : Int32)), .val (.int (4 : Int32)), .val (.int (4 : Int32)), .val (.int (2 : Int32))] [(.int (((b2 &&& (255 : Int32)).toUInt32.toUInt16.toUInt32.toInt32) - ((d2 &&& (255 : Int32)).toUInt32.toUInt16.toUInt32.toInt32)))])) (fun _ zk => XS.isub X8.here hx rfl (hb hby d17_39) rfl zk) ?_
    refine Go.retN X8 hx hlk hret rfl (by simp) (hb hby d17_40) (by decide) (by decide) E8 ?_
    exact ⟨_, rfl, (Or.inr (Or.inr (Or.inl ⟨m0, m1, m2, rfl⟩))), N8, rfl⟩
  · refine Go.st (T' := T2) (g' := (mkF m 16 #[.val (.ref t), .val (.ref u), .val (.int (4 : Int32)), .val (.int (4 : Int32)), .val (.int (4 : Int32)), .val (.int (3 : Int32))] [])) (fun _ zk => XS.istore X2.here hx rfl (hb hby d17_14) rfl (l' := #[.val (.ref t), .val (.ref u), .val (.int (4 : Int32)), .val (.int (4 : Int32)), .val (.int (4 : Int32)), .val (.int (3 : Int32))]) rfl zk) ?_
    refine Go.st (T' := T2) (g' := (mkF m 18 #[.val (.ref t), .val (.ref u), .val (.int (4 : Int32)), .val (.int (4 : Int32)), .val (.int (4 : Int32)), .val (.int (3 : Int32))] [(.int (3 : Int32))])) (fun _ zk => XS.iload X2.here hx rfl (hb hby d17_16) rfl zk) ?_
    refine Go.st (T' := T2) (g' := (mkF m 27 #[.val (.ref t), .val (.ref u), .val (.int (4 : Int32)), .val (.int (4 : Int32)), .val (.int (4 : Int32)), .val (.int (3 : Int32))] [])) (fun _ zk => XS.ifYes X2.here hx rfl (pc0 := 18) (pc' := 27) rfl (hb hby d17_18) rfl ((if0 _ _).trans (flt ((by decide) : ¬ ((3 : Int32) < (0 : Int32)))).2.1) (by decide) (by decide) zk) ?_
    refine Go.st (T' := T2) (g' := (mkF m 28 #[.val (.ref t), .val (.ref u), .val (.int (4 : Int32)), .val (.int (4 : Int32)), .val (.int (4 : Int32)), .val (.int (3 : Int32))] [(.ref t)])) (fun _ zk => XS.aloadN X2.here hx rfl (hb hby d17_27) rfl rfl zk) ?_
    refine Go.st (T' := T2) (g' := (mkF m 30 #[.val (.ref t), .val (.ref u), .val (.int (4 : Int32)), .val (.int (4 : Int32)), .val (.int (4 : Int32)), .val (.int (3 : Int32))] [(.int (3 : Int32)), (.ref t)])) (fun _ zk => XS.iload X2.here hx rfl (hb hby d17_28) rfl zk) ?_
    refine Go.callSt (y := (⟨"java/lang/StringLatin1", "getChar", "([BI)C"⟩ : MethodName)) X2 hx hZ hown E2 (w94 hw) (w95 hw) (w81 hw) (w96 hw) (by decide) (argsL := [(.ref t), (.int (3 : Int32))]) (rest := []) (W := 0) (rm_getChar_3 l Z a0 hw [] t k b0 b1 b2 b3 h0 n0 Z0 V1) rfl (lenOf pd16 rfl) rfl (by rw [hml]; rfl) rfl (by show 2 * 0 + _ ≤ _; exact Nat.le_of_eq rfl) (by decide) (by decide) (by decide) (by decide) (hb hby d17_30) ?_
    intro v9 T9 h9 L9 X9 e9 q9
    obtain ⟨hv9, Nf9, hh9⟩ := q9
    subst hv9
    have E9 : T9.heap = h0 := e9.trans hh9
    have N9 := Fr.app N2 Nf9
    show Go p.tables e below _ T9 (mkF m 33 #[.val (.ref t), .val (.ref u), .val (.int (4 : Int32)), .val (.int (4 : Int32)), .val (.int (4 : Int32)), .val (.int (3 : Int32))] [(.int ((b3 &&& (255 : Int32)).toUInt32.toUInt16.toUInt32.toInt32))])
    refine Go.st (T' := T9) (g' := (mkF m 34 #[.val (.ref t), .val (.ref u), .val (.int (4 : Int32)), .val (.int (4 : Int32)), .val (.int (4 : Int32)), .val (.int (3 : Int32))] [(.ref u), (.int ((b3 &&& (255 : Int32)).toUInt32.toUInt16.toUInt32.toInt32))])) (fun _ zk => XS.aloadN X9.here hx rfl (hb hby d17_33) rfl rfl zk) ?_
    refine Go.st (T' := T9) (g' := (mkF m 36 #[.val (.ref t), .val (.ref u), .val (.int (4 : Int32)), .val (.int (4 : Int32)), .val (.int (4 : Int32)), .val (.int (3 : Int32))] [(.int (3 : Int32)), (.ref u), (.int ((b3 &&& (255 : Int32)).toUInt32.toUInt16.toUInt32.toInt32))])) (fun _ zk => XS.iload X9.here hx rfl (hb hby d17_34) rfl zk) ?_
    refine Go.callSt (y := (⟨"java/lang/StringLatin1", "getChar", "([BI)C"⟩ : MethodName)) X9 hx hZ hown E9 (w94 hw) (w95 hw) (w81 hw) (w96 hw) (by decide) (argsL := [(.ref u), (.int (3 : Int32))]) (rest := [(.int ((b3 &&& (255 : Int32)).toUInt32.toUInt16.toUInt32.toInt32))]) (W := 1) (rm_getChar_3 l Z a0 hw [] u k' d0 d1 d2 d3 h0 n0 Z0 V2) rfl (lenOf pd16 rfl) rfl (by rw [hml]; rfl) rfl (by show 2 * 0 + _ ≤ _; exact Nat.le_of_eq rfl) (by decide) (by decide) (by decide) (by decide) (hb hby d17_36) ?_
    intro v10 T10 h10 L10 X10 e10 q10
    obtain ⟨hv10, Nf10, hh10⟩ := q10
    subst hv10
    have E10 : T10.heap = h0 := e10.trans hh10
    have N10 := Fr.app N9 Nf10
    show Go p.tables e below _ T10 (mkF m 39 #[.val (.ref t), .val (.ref u), .val (.int (4 : Int32)), .val (.int (4 : Int32)), .val (.int (4 : Int32)), .val (.int (3 : Int32))] [(.int ((d3 &&& (255 : Int32)).toUInt32.toUInt16.toUInt32.toInt32)), (.int ((b3 &&& (255 : Int32)).toUInt32.toUInt16.toUInt32.toInt32))])
    refine Go.st (T' := T10) (g' := (mkF m 40 #[.val (.ref t), .val (.ref u), .val (.int (4 : Int32)), .val (.int (4 : Int32)), .val (.int (4 : Int32)), .val (.int (3 : Int32))] [(.int (((b3 &&& (255 : Int32)).toUInt32.toUInt16.toUInt32.toInt32) - ((d3 &&& (255 : Int32)).toUInt32.toUInt16.toUInt32.toInt32)))])) (fun _ zk => XS.isub X10.here hx rfl (hb hby d17_39) rfl zk) ?_
    refine Go.retN X10 hx hlk hret rfl (by simp) (hb hby d17_40) (by decide) (by decide) E10 ?_
    exact ⟨_, rfl, (Or.inr (Or.inr (Or.inr (Or.inl ⟨m0, m1, m2, m3, rfl⟩)))), N10, rfl⟩
  · refine Go.st (T' := T2) (g' := (mkF m 16 #[.val (.ref t), .val (.ref u), .val (.int (4 : Int32)), .val (.int (4 : Int32)), .val (.int (4 : Int32)), .val (.int (-1 : Int32))] [])) (fun _ zk => XS.istore X2.here hx rfl (hb hby d17_14) rfl (l' := #[.val (.ref t), .val (.ref u), .val (.int (4 : Int32)), .val (.int (4 : Int32)), .val (.int (4 : Int32)), .val (.int (-1 : Int32))]) rfl zk) ?_
    refine Go.st (T' := T2) (g' := (mkF m 18 #[.val (.ref t), .val (.ref u), .val (.int (4 : Int32)), .val (.int (4 : Int32)), .val (.int (4 : Int32)), .val (.int (-1 : Int32))] [(.int (-1 : Int32))])) (fun _ zk => XS.iload X2.here hx rfl (hb hby d17_16) rfl zk) ?_
    refine Go.st (T' := T2) (g' := (mkF m 21 #[.val (.ref t), .val (.ref u), .val (.int (4 : Int32)), .val (.int (4 : Int32)), .val (.int (4 : Int32)), .val (.int (-1 : Int32))] [])) (fun _ zk => XS.ifNo X2.here hx rfl (hb hby d17_18) rfl ((if0 _ _).trans (tlt ((by decide) : (-1 : Int32) < (0 : Int32))).2.1) zk) ?_
    refine Go.st (T' := T2) (g' := (mkF m 22 #[.val (.ref t), .val (.ref u), .val (.int (4 : Int32)), .val (.int (4 : Int32)), .val (.int (4 : Int32)), .val (.int (-1 : Int32))] [(.int (4 : Int32))])) (fun _ zk => XS.iloadN X2.here hx rfl (hb hby d17_21) rfl zk) ?_
    refine Go.st (T' := T2) (g' := (mkF m 23 #[.val (.ref t), .val (.ref u), .val (.int (4 : Int32)), .val (.int (4 : Int32)), .val (.int (4 : Int32)), .val (.int (-1 : Int32))] [(.int (4 : Int32)), (.int (4 : Int32))])) (fun _ zk => XS.iloadN X2.here hx rfl (hb hby d17_22) rfl zk) ?_
    refine Go.st (T' := T2) (g' := (mkF m 24 #[.val (.ref t), .val (.ref u), .val (.int (4 : Int32)), .val (.int (4 : Int32)), .val (.int (4 : Int32)), .val (.int (-1 : Int32))] [(.int ((4 : Int32) - (4 : Int32)))])) (fun _ zk => XS.isub X2.here hx rfl (hb hby d17_23) rfl zk) ?_
    rw [show ((4 : Int32) - (4 : Int32)) = (0 : Int32) from by decide]
    refine Go.st (T' := T2) (g' := (mkF m 40 #[.val (.ref t), .val (.ref u), .val (.int (4 : Int32)), .val (.int (4 : Int32)), .val (.int (4 : Int32)), .val (.int (-1 : Int32))] [(.int (0 : Int32))])) (fun _ zk => XS.goto X2.here hx rfl (pc0 := 24) (pc' := 40) rfl (hb hby d17_24) (by decide) (by decide) zk) ?_
    refine Go.retN X2 hx hlk hret rfl (by simp) (hb hby d17_40) (by decide) (by decide) E2 ?_
    exact ⟨_, rfl, (Or.inr (Or.inr (Or.inr (Or.inr ⟨m0, m1, m2, m3, rfl⟩)))), N2, rfl⟩
theorem d16_0 : decode jdk_43_method_14_code 0 = .ok (.aload_n 0, 1) := by decide +kernel
theorem d16_1 : decode jdk_43_method_14_code 1 = .ok (.arraylength, 1) := by decide +kernel
theorem d16_2 : decode jdk_43_method_14_code 2 = .ok (.istore_n 2, 1) := by decide +kernel
theorem d16_3 : decode jdk_43_method_14_code 3 = .ok (.aload_n 1, 1) := by decide +kernel
theorem d16_4 : decode jdk_43_method_14_code 4 = .ok (.arraylength, 1) := by decide +kernel
theorem d16_5 : decode jdk_43_method_14_code 5 = .ok (.istore_n 3, 1) := by decide +kernel
theorem d16_6 : decode jdk_43_method_14_code 6 = .ok (.aload_n 0, 1) := by decide +kernel
theorem d16_7 : decode jdk_43_method_14_code 7 = .ok (.aload_n 1, 1) := by decide +kernel
theorem d16_8 : decode jdk_43_method_14_code 8 = .ok (.iload_n 2, 1) := by decide +kernel
theorem d16_9 : decode jdk_43_method_14_code 9 = .ok (.iload_n 3, 1) := by decide +kernel
theorem w85 {a0 : Array Value} {Z : State} (hw : ∀ d ∈ tables_1, d.before a0 Z = true) : ((Jvm.Cond.code ({ cls := "java/lang/StringLatin1", name := "compareTo", desc := "([B[BII)I" } : Jvm.MethodName) jdk_43_method_15_code (6 : Nat) (Option.some Jvm.ClassFile.FieldType.int))).before a0 Z = true := hw _ (List.mem_of_getElem? (i := 85) rfl)
theorem pd17 : parseMethodDescriptor "([B[BII)I" = some ⟨[(.array .byte), (.array .byte), .int, .int], some .int⟩ := by decide +kernel
theorem d16_10 : decode jdk_43_method_14_code 10 = .ok (.invokestatic 34, 3) := by decide +kernel
theorem w83 {a0 : Array Value} {Z : State} (hw : ∀ d ∈ tables_1, d.before a0 Z = true) : ((Jvm.Cond.methodLink "java/lang/StringLatin1" (34 : Nat) ({ cls := "java/lang/StringLatin1", name := "compareTo", desc := "([B[BII)I" } : Jvm.MethodName))).before a0 Z = true := hw _ (List.mem_of_getElem? (i := 83) rfl)
theorem w84 {a0 : Array Value} {Z : State} (hw : ∀ d ∈ tables_1, d.before a0 Z = true) : ((Jvm.Cond.static ({ cls := "java/lang/StringLatin1", name := "compareTo", desc := "([B[BII)I" } : Jvm.MethodName))).before a0 Z = true := hw _ (List.mem_of_getElem? (i := 84) rfl)
theorem d16_13 : decode jdk_43_method_14_code 13 = .ok (.ireturn, 1) := by decide +kernel
def rr_cmp2 : Room := { frames := 2, cells := 0, slots := 0, locals := 32 }
set_option maxRecDepth 65536 in
set_option maxHeartbeats 40000000 in
theorem rm_cmp2 (l : Launch) (Z : State) (a0 : Array Value) (hw : ∀ d ∈ tables_1, d.before a0 Z = true) (ws : List Jvm.Cond) (t u : Addr) (k k' : ClassId) (b0 b1 b2 b3 d0 d1 d2 d3 : Int32) (h0 : Heap) (n0 : Nat) (Z0 : n0 ≤ h0.size) (V1 : Arv Z h0 t k .byte (4 : Int32) [(.int b0), (.int b1), (.int b2), (.int b3)] (.int (0 : Int32))) (V2 : Arv Z h0 u k' .byte (4 : Int32) [(.int d0), (.int d1), (.int d2), (.int d3)] (.int (0 : Int32))) :
    Con l Z (⟨"java/lang/StringLatin1", "compareTo", "([B[B)I"⟩ : MethodName) jdk_43_method_14_code 4 (some .int) ws rr_cmp2 #[(.ref t), (.ref u)] h0 (fun v h L => ∃ r : Int32, v = some (.int r) ∧ ((¬ b0 = d0 ∧ r = ((b0 &&& (255 : Int32)).toUInt32.toUInt16.toUInt32.toInt32) - ((d0 &&& (255 : Int32)).toUInt32.toUInt16.toUInt32.toInt32)) ∨ (b0 = d0 ∧ ¬ b1 = d1 ∧ r = ((b1 &&& (255 : Int32)).toUInt32.toUInt16.toUInt32.toInt32) - ((d1 &&& (255 : Int32)).toUInt32.toUInt16.toUInt32.toInt32)) ∨ (b0 = d0 ∧ b1 = d1 ∧ ¬ b2 = d2 ∧ r = ((b2 &&& (255 : Int32)).toUInt32.toUInt16.toUInt32.toInt32) - ((d2 &&& (255 : Int32)).toUInt32.toUInt16.toUInt32.toInt32)) ∨ (b0 = d0 ∧ b1 = d1 ∧ b2 = d2 ∧ ¬ b3 = d3 ∧ r = ((b3 &&& (255 : Int32)).toUInt32.toUInt16.toUInt32.toInt32) - ((d3 &&& (255 : Int32)).toUInt32.toUInt16.toUInt32.toInt32)) ∨ (b0 = d0 ∧ b1 = d1 ∧ b2 = d2 ∧ b3 = d3 ∧ r = 0)) ∧ Fr n0 L ∧ h = h0) := by
  refine Con.enter (plainFor_of_name pn12) ?_
  intro p e s m below meth c s₁ X0 hx hZ hby hml hret hlk hown hnm e0
  have N0 := Fr.nil n0
  refine Go.cast (g' := (mkF m 0 #[.val (.ref t), .val (.ref u), .unset, .unset] [])) (by first | rfl | (simp [entryFrame, mkF, argsToLocals, Value.category]; done)) ?_
  refine Go.st (T' := s₁) (g' := (mkF m 1 #[.val (.ref t), .val (.ref u), .unset, .unset] [(.ref t)])) (fun _ zk => XS.aloadN X0.here hx rfl (hb hby d16_0) rfl rfl zk) ?_
  refine Go.st (T' := s₁) (g' := (mkF m 2 #[.val (.ref t), .val (.ref u), .unset, .unset] [(.int (4 : Int32))])) (fun _ zk => lenV X0 hx hZ e0 V1 (g := (mkF m 1 #[.val (.ref t), .val (.ref u), .unset, .unset] [(.ref t)])) rfl (rest := []) rfl (hb hby d16_1) zk) ?_
  refine Go.st (T' := s₁) (g' := (mkF m 3 #[.val (.ref t), .val (.ref u), .val (.int (4 : Int32)), .unset] [])) (fun _ zk => XS.istoreN X0.here hx rfl (hb hby d16_2) rfl (l' := #[.val (.ref t), .val (.ref u), .val (.int (4 : Int32)), .unset]) rfl zk) ?_
  refine Go.st (T' := s₁) (g' := (mkF m 4 #[.val (.ref t), .val (.ref u), .val (.int (4 : Int32)), .unset] [(.ref u)])) (fun _ zk => XS.aloadN X0.here hx rfl (hb hby d16_3) rfl rfl zk) ?_
  refine Go.st (T' := s₁) (g' := (mkF m 5 #[.val (.ref t), .val (.ref u), .val (.int (4 : Int32)), .unset] [(.int (4 : Int32))])) (fun _ zk => lenV X0 hx hZ e0 V2 (g := (mkF m 4 #[.val (.ref t), .val (.ref u), .val (.int (4 : Int32)), .unset] [(.ref u)])) rfl (rest := []) rfl (hb hby d16_4) zk) ?_
  refine Go.st (T' := s₁) (g' := (mkF m 6 #[.val (.ref t), .val (.ref u), .val (.int (4 : Int32)), .val (.int (4 : Int32))] [])) (fun _ zk => XS.istoreN X0.here hx rfl (hb hby d16_5) rfl (l' := #[.val (.ref t), .val (.ref u), .val (.int (4 : Int32)), .val (.int (4 : Int32))]) rfl zk) ?_
  refine Go.st (T' := s₁) (g' := (mkF m 7 #[.val (.ref t), .val (.ref u), .val (.int (4 : Int32)), .val (.int (4 : Int32))] [(.ref t)])) (fun _ zk => XS.aloadN X0.here hx rfl (hb hby d16_6) rfl rfl zk) ?_
  refine Go.st (T' := s₁) (g' := (mkF m 8 #[.val (.ref t), .val (.ref u), .val (.int (4 : Int32)), .val (.int (4 : Int32))] [(.ref u), (.ref t)])) (fun _ zk => XS.aloadN X0.here hx rfl (hb hby d16_7) rfl rfl zk) ?_
  refine Go.st (T' := s₁) (g' := (mkF m 9 #[.val (.ref t), .val (.ref u), .val (.int (4 : Int32)), .val (.int (4 : Int32))] [(.int (4 : Int32)), (.ref u), (.ref t)])) (fun _ zk => XS.iloadN X0.here hx rfl (hb hby d16_8) rfl zk) ?_
  refine Go.st (T' := s₁) (g' := (mkF m 10 #[.val (.ref t), .val (.ref u), .val (.int (4 : Int32)), .val (.int (4 : Int32))] [(.int (4 : Int32)), (.int (4 : Int32)), (.ref u), (.ref t)])) (fun _ zk => XS.iloadN X0.here hx rfl (hb hby d16_9) rfl zk) ?_
  refine Go.callSt (y := (⟨"java/lang/StringLatin1", "compareTo", "([B[BII)I"⟩ : MethodName)) X0 hx hZ hown e0 (w83 hw) (w84 hw) (w81 hw) (w85 hw) (by decide) (argsL := [(.ref t), (.ref u), (.int (4 : Int32)), (.int (4 : Int32))]) (rest := []) (W := 0) (rm_cmp4 l Z a0 hw [] t u k k' b0 b1 b2 b3 d0 d1 d2 d3 h0 n0 Z0 V1 V2) rfl (lenOf pd17 rfl) rfl (by rw [hml]; rfl) rfl (by show 2 * 0 + _ ≤ _; exact Nat.le_of_eq rfl) (by decide) (by decide) (by decide) (by decide) (hb hby d16_10) ?_
  intro v1 T1 h1 L1 X1 e1 q1
  obtain ⟨r1, hv1, hr1, Nf1, hh1⟩ := q1
  subst hv1
  have E1 : T1.heap = h0 := e1.trans hh1
  have N1 := Fr.app N0 Nf1
  show Go p.tables e below _ T1 (mkF m 13 #[.val (.ref t), .val (.ref u), .val (.int (4 : Int32)), .val (.int (4 : Int32))] [(.int r1)])
  refine Go.retN X1 hx hlk hret rfl (by simp) (hb hby d16_13) (by decide) (by decide) E1 ?_
  exact ⟨_, rfl, hr1, N1, rfl⟩
theorem d14_0 : decode jdk_42_method_71_code 0 = .ok (.aload_n 0, 1) := by decide +kernel
theorem d14_1 : decode jdk_42_method_71_code 1 = .ok (.getfield 9, 3) := by decide +kernel
theorem d14_4 : decode jdk_42_method_71_code 4 = .ok (.astore_n 2, 1) := by decide +kernel
theorem d14_5 : decode jdk_42_method_71_code 5 = .ok (.aload_n 1, 1) := by decide +kernel
theorem d14_6 : decode jdk_42_method_71_code 6 = .ok (.getfield 9, 3) := by decide +kernel
theorem d14_9 : decode jdk_42_method_71_code 9 = .ok (.astore_n 3, 1) := by decide +kernel
theorem d14_10 : decode jdk_42_method_71_code 10 = .ok (.aload_n 0, 1) := by decide +kernel
theorem w78 {a0 : Array Value} {Z : State} (hw : ∀ d ∈ tables_1, d.before a0 Z = true) : ((Jvm.Cond.code ({ cls := "java/lang/String", name := "coder", desc := "()B" } : Jvm.MethodName) jdk_42_method_152_code (1 : Nat) (Option.some Jvm.ClassFile.FieldType.byte))).before a0 Z = true := hw _ (List.mem_of_getElem? (i := 78) rfl)
theorem pd18 : parseMethodDescriptor "()B" = some ⟨[], some .byte⟩ := by decide +kernel
theorem d14_11 : decode jdk_42_method_71_code 11 = .ok (.invokevirtual 335, 3) := by decide +kernel
theorem w77 {a0 : Array Value} {Z : State} (hw : ∀ d ∈ tables_1, d.before a0 Z = true) : ((Jvm.Cond.selects "java/lang/String" ({ cls := "java/lang/String", name := "coder", desc := "()B" } : Jvm.MethodName) ({ cls := "java/lang/String", name := "coder", desc := "()B" } : Jvm.MethodName))).before a0 Z = true := hw _ (List.mem_of_getElem? (i := 77) rfl)
theorem w76 {a0 : Array Value} {Z : State} (hw : ∀ d ∈ tables_1, d.before a0 Z = true) : ((Jvm.Cond.instanceMethod ({ cls := "java/lang/String", name := "coder", desc := "()B" } : Jvm.MethodName))).before a0 Z = true := hw _ (List.mem_of_getElem? (i := 76) rfl)
theorem w74 {a0 : Array Value} {Z : State} (hw : ∀ d ∈ tables_1, d.before a0 Z = true) : ((Jvm.Cond.methodLink "java/lang/String" (335 : Nat) ({ cls := "java/lang/String", name := "coder", desc := "()B" } : Jvm.MethodName))).before a0 Z = true := hw _ (List.mem_of_getElem? (i := 74) rfl)
theorem w75 {a0 : Array Value} {Z : State} (hw : ∀ d ∈ tables_1, d.before a0 Z = true) : ((Jvm.Cond.declares ({ cls := "java/lang/String", name := "coder", desc := "()B" } : Jvm.MethodName))).before a0 Z = true := hw _ (List.mem_of_getElem? (i := 75) rfl)
theorem d14_14 : decode jdk_42_method_71_code 14 = .ok (.istore 4, 2) := by decide +kernel
theorem d14_16 : decode jdk_42_method_71_code 16 = .ok (.iload 4, 2) := by decide +kernel
theorem d14_18 : decode jdk_42_method_71_code 18 = .ok (.aload_n 1, 1) := by decide +kernel
theorem d14_19 : decode jdk_42_method_71_code 19 = .ok (.invokevirtual 335, 3) := by decide +kernel
theorem d14_22 : decode jdk_42_method_71_code 22 = .ok (.if_icmp .ne 22, 3) := by decide +kernel
theorem d14_25 : decode jdk_42_method_71_code 25 = .ok (.iload 4, 2) := by decide +kernel
theorem d14_27 : decode jdk_42_method_71_code 27 = .ok (.ifCond .ne 11, 3) := by decide +kernel
theorem d14_30 : decode jdk_42_method_71_code 30 = .ok (.aload_n 2, 1) := by decide +kernel
theorem d14_31 : decode jdk_42_method_71_code 31 = .ok (.aload_n 3, 1) := by decide +kernel
theorem w82 {a0 : Array Value} {Z : State} (hw : ∀ d ∈ tables_1, d.before a0 Z = true) : ((Jvm.Cond.code ({ cls := "java/lang/StringLatin1", name := "compareTo", desc := "([B[B)I" } : Jvm.MethodName) jdk_43_method_14_code (4 : Nat) (Option.some Jvm.ClassFile.FieldType.int))).before a0 Z = true := hw _ (List.mem_of_getElem? (i := 82) rfl)
theorem pd19 : parseMethodDescriptor "([B[B)I" = some ⟨[(.array .byte), (.array .byte)], some .int⟩ := by decide +kernel
theorem d14_32 : decode jdk_42_method_71_code 32 = .ok (.invokestatic 586, 3) := by decide +kernel
theorem w79 {a0 : Array Value} {Z : State} (hw : ∀ d ∈ tables_1, d.before a0 Z = true) : ((Jvm.Cond.methodLink "java/lang/String" (586 : Nat) ({ cls := "java/lang/StringLatin1", name := "compareTo", desc := "([B[B)I" } : Jvm.MethodName))).before a0 Z = true := hw _ (List.mem_of_getElem? (i := 79) rfl)
theorem w80 {a0 : Array Value} {Z : State} (hw : ∀ d ∈ tables_1, d.before a0 Z = true) : ((Jvm.Cond.static ({ cls := "java/lang/StringLatin1", name := "compareTo", desc := "([B[B)I" } : Jvm.MethodName))).before a0 Z = true := hw _ (List.mem_of_getElem? (i := 80) rfl)
theorem d14_35 : decode jdk_42_method_71_code 35 = .ok (.goto 8, 3) := by decide +kernel
theorem d14_43 : decode jdk_42_method_71_code 43 = .ok (.ireturn, 1) := by decide +kernel
def rr_strCmp : Room := { frames := 3, cells := 0, slots := 0, locals := 47 }
set_option maxRecDepth 65536 in
set_option maxHeartbeats 40000000 in
theorem rm_strCmp (l : Launch) (Z : State) (a0 : Array Value) (hw : ∀ d ∈ tables_1, d.before a0 Z = true) (ws : List Jvm.Cond) (x1 y1 : Addr) (b0 b1 b2 b3 d0 d1 d2 d3 zc : Int32) (h0 : Heap) (n0 : Nat) (Z0 : n0 ≤ h0.size) (O0 : Old Z n0 h0) (S1 : StrB Z h0 x1 0 [b0, b1, b2, b3]) (S2 : StrB Z h0 y1 0 [d0, d1, d2, d3]) (CS : Sta Z Z.heap "java/lang/String" "COMPACT_STRINGS" "Z" (.int zc)) (hz : ¬ zc = 0) :
    Con l Z (⟨"java/lang/String", "compareTo", "(Ljava/lang/String;)I"⟩ : MethodName) jdk_42_method_71_code 5 (some .int) ws rr_strCmp #[(.ref x1), (.ref y1)] h0 (fun v h L => ∃ r : Int32, v = some (.int r) ∧ ((¬ b0 = d0 ∧ r = ((b0 &&& (255 : Int32)).toUInt32.toUInt16.toUInt32.toInt32) - ((d0 &&& (255 : Int32)).toUInt32.toUInt16.toUInt32.toInt32)) ∨ (b0 = d0 ∧ ¬ b1 = d1 ∧ r = ((b1 &&& (255 : Int32)).toUInt32.toUInt16.toUInt32.toInt32) - ((d1 &&& (255 : Int32)).toUInt32.toUInt16.toUInt32.toInt32)) ∨ (b0 = d0 ∧ b1 = d1 ∧ ¬ b2 = d2 ∧ r = ((b2 &&& (255 : Int32)).toUInt32.toUInt16.toUInt32.toInt32) - ((d2 &&& (255 : Int32)).toUInt32.toUInt16.toUInt32.toInt32)) ∨ (b0 = d0 ∧ b1 = d1 ∧ b2 = d2 ∧ ¬ b3 = d3 ∧ r = ((b3 &&& (255 : Int32)).toUInt32.toUInt16.toUInt32.toInt32) - ((d3 &&& (255 : Int32)).toUInt32.toUInt16.toUInt32.toInt32)) ∨ (b0 = d0 ∧ b1 = d1 ∧ b2 = d2 ∧ b3 = d3 ∧ r = 0)) ∧ Fr n0 L ∧ h = h0) := by
  refine Con.enter (plainFor_of_name pn5) ?_
  intro p e s m below meth c s₁ X0 hx hZ hby hml hret hlk hown hnm e0
  have N0 := Fr.nil n0
  refine Go.cast (g' := (mkF m 0 #[.val (.ref x1), .val (.ref y1), .unset, .unset, .unset] [])) (by first | rfl | (simp [entryFrame, mkF, argsToLocals, Value.category]; done)) ?_
  obtain ⟨t, k, E1, C1, F1, V1⟩ := S1
  obtain ⟨u, k', E2, C2, F2, V2⟩ := S2
  have V1 : Arv Z h0 t k .byte (4 : Int32) [(.int b0), (.int b1), (.int b2), (.int b3)] (.int (0 : Int32)) := V1
  have V2 : Arv Z h0 u k' .byte (4 : Int32) [(.int d0), (.int d1), (.int d2), (.int d3)] (.int (0 : Int32)) := V2
  refine Go.st (T' := s₁) (g' := (mkF m 1 #[.val (.ref x1), .val (.ref y1), .unset, .unset, .unset] [(.ref x1)])) (fun _ zk => XS.aloadN X0.here hx rfl (hb hby d14_0) rfl rfl zk) ?_
  obtain ⟨T1, X1, e1, st1⟩ := getF X0 hx hZ hown (host := "") (Or.inl (w40 hw)) Via.refl e0 F1 (g := (mkF m 1 #[.val (.ref x1), .val (.ref y1), .unset, .unset, .unset] [(.ref x1)])) rfl rfl (hb hby d14_1)
  refine Go.st (T' := T1) (g' := (mkF m 4 #[.val (.ref x1), .val (.ref y1), .unset, .unset, .unset] [(.ref t)])) (fun _ zk => st1 _ zk) ?_
  refine Go.st (T' := T1) (g' := (mkF m 5 #[.val (.ref x1), .val (.ref y1), .val (.ref t), .unset, .unset] [])) (fun _ zk => XS.astoreN X1.here hx rfl (hb hby d14_4) rfl rfl (l' := #[.val (.ref x1), .val (.ref y1), .val (.ref t), .unset, .unset]) rfl zk) ?_
  refine Go.st (T' := T1) (g' := (mkF m 6 #[.val (.ref x1), .val (.ref y1), .val (.ref t), .unset, .unset] [(.ref y1)])) (fun _ zk => XS.aloadN X1.here hx rfl (hb hby d14_5) rfl rfl zk) ?_
  obtain ⟨T2, X2, e2, st2⟩ := getF X1 hx hZ hown (host := "") (Or.inl (w40 hw)) Via.refl e1 F2 (g := (mkF m 6 #[.val (.ref x1), .val (.ref y1), .val (.ref t), .unset, .unset] [(.ref y1)])) rfl rfl (hb hby d14_6)
  refine Go.st (T' := T2) (g' := (mkF m 9 #[.val (.ref x1), .val (.ref y1), .val (.ref t), .unset, .unset] [(.ref u)])) (fun _ zk => st2 _ zk) ?_
  refine Go.st (T' := T2) (g' := (mkF m 10 #[.val (.ref x1), .val (.ref y1), .val (.ref t), .val (.ref u), .unset] [])) (fun _ zk => XS.astoreN X2.here hx rfl (hb hby d14_9) rfl rfl (l' := #[.val (.ref x1), .val (.ref y1), .val (.ref t), .val (.ref u), .unset]) rfl zk) ?_
  refine Go.st (T' := T2) (g' := (mkF m 11 #[.val (.ref x1), .val (.ref y1), .val (.ref t), .val (.ref u), .unset] [(.ref x1)])) (fun _ zk => XS.aloadN X2.here hx rfl (hb hby d14_10) rfl rfl zk) ?_
  refine Go.callV (y := (⟨"java/lang/String", "coder", "()B"⟩ : MethodName)) (z := (⟨"java/lang/String", "coder", "()B"⟩ : MethodName)) (C := "java/lang/String") (a := x1) X2 hx hZ hown e2 (w74 hw) (w75 hw) (w77 hw) (w76 hw) (w15 hw) (w78 hw) (notFace_of_selects (args := #[]) (mvT hZ (w77 hw))) (by decide) E1 (argsL := []) (rest := []) (W := 0) (rm_coder l Z a0 hw [] x1 zc h0 n0 Z0 O0 C1 CS hz) rfl (lenOf pd18 rfl) rfl (by rw [hml]; rfl) rfl (by show 2 * 0 + _ ≤ _; exact Nat.le_of_eq rfl) (by decide) (by decide) (by decide) (by decide) (hb hby d14_11) ?_
  intro v3 T3 h3 L3 X3 e3 q3
  obtain ⟨hv3, Nf3, hh3⟩ := q3
  subst hv3
  have E3 : T3.heap = h0 := e3.trans hh3
  have N3 := Fr.app N0 Nf3
  show Go p.tables e below _ T3 (mkF m 14 #[.val (.ref x1), .val (.ref y1), .val (.ref t), .val (.ref u), .unset] [(.int (0 : Int32))])
  refine Go.st (T' := T3) (g' := (mkF m 16 #[.val (.ref x1), .val (.ref y1), .val (.ref t), .val (.ref u), .val (.int (0 : Int32))] [])) (fun _ zk => XS.istore X3.here hx rfl (hb hby d14_14) rfl (l' := #[.val (.ref x1), .val (.ref y1), .val (.ref t), .val (.ref u), .val (.int (0 : Int32))]) rfl zk) ?_
  refine Go.st (T' := T3) (g' := (mkF m 18 #[.val (.ref x1), .val (.ref y1), .val (.ref t), .val (.ref u), .val (.int (0 : Int32))] [(.int (0 : Int32))])) (fun _ zk => XS.iload X3.here hx rfl (hb hby d14_16) rfl zk) ?_
  refine Go.st (T' := T3) (g' := (mkF m 19 #[.val (.ref x1), .val (.ref y1), .val (.ref t), .val (.ref u), .val (.int (0 : Int32))] [(.ref y1), (.int (0 : Int32))])) (fun _ zk => XS.aloadN X3.here hx rfl (hb hby d14_18) rfl rfl zk) ?_
  refine Go.callV (y := (⟨"java/lang/String", "coder", "()B"⟩ : MethodName)) (z := (⟨"java/lang/String", "coder", "()B"⟩ : MethodName)) (C := "java/lang/String") (a := y1) X3 hx hZ hown E3 (w74 hw) (w75 hw) (w77 hw) (w76 hw) (w15 hw) (w78 hw) (notFace_of_selects (args := #[]) (mvT hZ (w77 hw))) (by decide) E2 (argsL := []) (rest := [(.int (0 : Int32))]) (W := 1) (rm_coder l Z a0 hw [] y1 zc h0 n0 Z0 O0 C2 CS hz) rfl (lenOf pd18 rfl) rfl (by rw [hml]; rfl) rfl (by show 2 * 0 + _ ≤ _; exact Nat.le_of_eq rfl) (by decide) (by decide) (by decide) (by decide) (hb hby d14_19) ?_
  intro v4 T4 h4 L4 X4 e4 q4
  obtain ⟨hv4, Nf4, hh4⟩ := q4
  subst hv4
  have E4 : T4.heap = h0 := e4.trans hh4
  have N4 := Fr.app N3 Nf4
  show Go p.tables e below _ T4 (mkF m 22 #[.val (.ref x1), .val (.ref y1), .val (.ref t), .val (.ref u), .val (.int (0 : Int32))] [(.int (0 : Int32)), (.int (0 : Int32))])
  refine Go.st (T' := T4) (g' := (mkF m 25 #[.val (.ref x1), .val (.ref y1), .val (.ref t), .val (.ref u), .val (.int (0 : Int32))] [])) (fun _ zk => XS.icmpNo X4.here hx rfl (hb hby d14_22) rfl (teq (rfl : (0 : Int32) = (0 : Int32))).2 zk) ?_
  refine Go.st (T' := T4) (g' := (mkF m 27 #[.val (.ref x1), .val (.ref y1), .val (.ref t), .val (.ref u), .val (.int (0 : Int32))] [(.int (0 : Int32))])) (fun _ zk => XS.iload X4.here hx rfl (hb hby d14_25) rfl zk) ?_
  refine Go.st (T' := T4) (g' := (mkF m 30 #[.val (.ref x1), .val (.ref y1), .val (.ref t), .val (.ref u), .val (.int (0 : Int32))] [])) (fun _ zk => XS.ifNo X4.here hx rfl (hb hby d14_27) rfl ((if0 _ _).trans (teq (rfl : (0 : Int32) = (0 : Int32))).2) zk) ?_
  refine Go.st (T' := T4) (g' := (mkF m 31 #[.val (.ref x1), .val (.ref y1), .val (.ref t), .val (.ref u), .val (.int (0 : Int32))] [(.ref t)])) (fun _ zk => XS.aloadN X4.here hx rfl (hb hby d14_30) rfl rfl zk) ?_
  refine Go.st (T' := T4) (g' := (mkF m 32 #[.val (.ref x1), .val (.ref y1), .val (.ref t), .val (.ref u), .val (.int (0 : Int32))] [(.ref u), (.ref t)])) (fun _ zk => XS.aloadN X4.here hx rfl (hb hby d14_31) rfl rfl zk) ?_
  refine Go.callSt (y := (⟨"java/lang/StringLatin1", "compareTo", "([B[B)I"⟩ : MethodName)) X4 hx hZ hown E4 (w79 hw) (w80 hw) (w81 hw) (w82 hw) (by decide) (argsL := [(.ref t), (.ref u)]) (rest := []) (W := 0) (rm_cmp2 l Z a0 hw [] t u k k' b0 b1 b2 b3 d0 d1 d2 d3 h0 n0 Z0 V1 V2) rfl (lenOf pd19 rfl) rfl (by rw [hml]; rfl) rfl (by show 2 * 0 + _ ≤ _; exact Nat.le_of_eq rfl) (by decide) (by decide) (by decide) (by decide) (hb hby d14_32) ?_
  intro v5 T5 h5 L5 X5 e5 q5
  obtain ⟨r5, hv5, hr5, Nf5, hh5⟩ := q5
  subst hv5
  have E5 : T5.heap = h0 := e5.trans hh5
  have N5 := Fr.app N4 Nf5
  show Go p.tables e below _ T5 (mkF m 35 #[.val (.ref x1), .val (.ref y1), .val (.ref t), .val (.ref u), .val (.int (0 : Int32))] [(.int r5)])
  refine Go.st (T' := T5) (g' := (mkF m 43 #[.val (.ref x1), .val (.ref y1), .val (.ref t), .val (.ref u), .val (.int (0 : Int32))] [(.int r5)])) (fun _ zk => XS.goto X5.here hx rfl (pc0 := 35) (pc' := 43) rfl (hb hby d14_35) (by decide) (by decide) zk) ?_
  refine Go.retN X5 hx hlk hret rfl (by simp) (hb hby d14_43) (by decide) (by decide) E5 ?_
  exact ⟨_, rfl, hr5, N5, rfl⟩
theorem d10_0 : decode jdk_30_method_1_code 0 = .ok (.aload_n 0, 1) := by decide +kernel
theorem d10_1 : decode jdk_30_method_1_code 1 = .ok (.invokespecial 1, 3) := by decide +kernel
theorem w50 {a0 : Array Value} {Z : State} (hw : ∀ d ∈ tables_1, d.before a0 Z = true) : ((Jvm.Cond.methodLink "java/lang/Record" (1 : Nat) ({ cls := "java/lang/Object", name := "<init>", desc := "()V" } : Jvm.MethodName))).before a0 Z = true := hw _ (List.mem_of_getElem? (i := 50) rfl)
theorem d10_4 : decode jdk_30_method_1_code 4 = .ok (.return_, 1) := by decide +kernel
def rr_recInit : Room := { frames := 1, cells := 0, slots := 0, locals := 12 }
theorem pn20 : plainName "java/lang/Record" = true := by first | (simp [plainName, overriddenIn]; done) | decide +kernel
set_option maxRecDepth 65536 in
set_option maxHeartbeats 40000000 in
theorem rm_recInit (l : Launch) (Z : State) (a0 : Array Value) (hw : ∀ d ∈ tables_1, d.before a0 Z = true) (ws : List Jvm.Cond) (a1 : Addr) (h0 : Heap) (n0 : Nat) (Z0 : n0 ≤ h0.size)  :
    Con l Z (⟨"java/lang/Record", "<init>", "()V"⟩ : MethodName) jdk_30_method_1_code 1 none ws rr_recInit #[(.ref a1)] h0 (fun v h L => v = none ∧ Fr n0 L ∧ h = h0) := by
  refine Con.enter (plainFor_of_name pn20) ?_
  intro p e s m below meth c s₁ X0 hx hZ hby hml hret hlk hown hnm e0
  have N0 := Fr.nil n0
  refine Go.cast (g' := (mkF m 0 #[.val (.ref a1)] [])) (by first | rfl | (simp [entryFrame, mkF, argsToLocals, Value.category]; done)) ?_
  refine Go.st (T' := s₁) (g' := (mkF m 1 #[.val (.ref a1)] [(.ref a1)])) (fun _ zk => XS.aloadN X0.here hx rfl (hb hby d10_0) rfl rfl zk) ?_
  obtain ⟨T1, X1, e1, st1⟩ := initO X0 hx hZ hown (w50 hw) (w24 hw) (w25 hw) e0 (g := (mkF m 1 #[.val (.ref a1)] [(.ref a1)])) rfl (by rw [hml]; rfl) rfl (hb hby d10_1) (by decide) (W := 0) (by show 2 * 0 + _ ≤ _; exact Nat.le_of_eq rfl) (by decide)
  refine Go.st (T' := T1) (g' := (mkF m 4 #[.val (.ref a1)] [])) (fun _ zk => st1 _ zk) ?_
  refine Go.retV X1 hx hlk hret (hb hby d10_4) (by decide) (by decide) e1 ?_
  exact ⟨rfl, N0, rfl⟩
theorem d9_0 : decode prog_6_method_1_code 0 = .ok (.aload_n 0, 1) := by decide +kernel
theorem w49 {a0 : Array Value} {Z : State} (hw : ∀ d ∈ tables_1, d.before a0 Z = true) : ((Jvm.Cond.code ({ cls := "java/lang/Record", name := "<init>", desc := "()V" } : Jvm.MethodName) jdk_30_method_1_code (1 : Nat) (Option.none : Option Jvm.ClassFile.FieldType))).before a0 Z = true := hw _ (List.mem_of_getElem? (i := 49) rfl)
theorem w48 {a0 : Array Value} {Z : State} (hw : ∀ d ∈ tables_1, d.before a0 Z = true) : ((Jvm.Cond.initialized "java/lang/Record")).before a0 Z = true := hw _ (List.mem_of_getElem? (i := 48) rfl)
theorem pd21 : parseMethodDescriptor "()V" = some ⟨[], none⟩ := by decide +kernel
theorem d9_1 : decode prog_6_method_1_code 1 = .ok (.invokespecial 1, 3) := by decide +kernel
theorem w45 {a0 : Array Value} {Z : State} (hw : ∀ d ∈ tables_1, d.before a0 Z = true) : ((Jvm.Cond.methodLink "com/example/tokenweave/tokenweave/core/EntryName" (1 : Nat) ({ cls := "java/lang/Record", name := "<init>", desc := "()V" } : Jvm.MethodName))).before a0 Z = true := hw _ (List.mem_of_getElem? (i := 45) rfl)
theorem w46 {a0 : Array Value} {Z : State} (hw : ∀ d ∈ tables_1, d.before a0 Z = true) : ((Jvm.Cond.instanceMethod ({ cls := "java/lang/Record", name := "<init>", desc := "()V" } : Jvm.MethodName))).before a0 Z = true := hw _ (List.mem_of_getElem? (i := 46) rfl)
theorem d9_4 : decode prog_6_method_1_code 4 = .ok (.aload_n 0, 1) := by decide +kernel
theorem d9_5 : decode prog_6_method_1_code 5 = .ok (.iload_n 1, 1) := by decide +kernel
theorem d9_6 : decode prog_6_method_1_code 6 = .ok (.putfield 7, 3) := by decide +kernel
theorem w51 {a0 : Array Value} {Z : State} (hw : ∀ d ∈ tables_1, d.before a0 Z = true) : ((Jvm.Cond.fieldLink "com/example/tokenweave/tokenweave/core/EntryName" (7 : Nat) "com/example/tokenweave/tokenweave/core/EntryName" "kind" "B")).before a0 Z = true := hw _ (List.mem_of_getElem? (i := 51) rfl)
theorem w3 {a0 : Array Value} {Z : State} (hw : ∀ d ∈ tables_1, d.before a0 Z = true) : ((Jvm.Cond.instantiable "com/example/tokenweave/tokenweave/core/EntryName" (3 : Nat))).before a0 Z = true := hw _ (List.mem_of_getElem? (i := 3) rfl)
theorem w52 {a0 : Array Value} {Z : State} (hw : ∀ d ∈ tables_1, d.before a0 Z = true) : ((Jvm.Cond.laysFinal "com/example/tokenweave/tokenweave/core/EntryName" "com/example/tokenweave/tokenweave/core/EntryName" "kind" "B")).before a0 Z = true := hw _ (List.mem_of_getElem? (i := 52) rfl)
theorem d9_9 : decode prog_6_method_1_code 9 = .ok (.aload_n 0, 1) := by decide +kernel
theorem d9_10 : decode prog_6_method_1_code 10 = .ok (.aload_n 2, 1) := by decide +kernel
theorem d9_11 : decode prog_6_method_1_code 11 = .ok (.putfield 13, 3) := by decide +kernel
theorem w53 {a0 : Array Value} {Z : State} (hw : ∀ d ∈ tables_1, d.before a0 Z = true) : ((Jvm.Cond.fieldLink "com/example/tokenweave/tokenweave/core/EntryName" (13 : Nat) "com/example/tokenweave/tokenweave/core/EntryName" "hash" "Ljava/lang/String;")).before a0 Z = true := hw _ (List.mem_of_getElem? (i := 53) rfl)
theorem w54 {a0 : Array Value} {Z : State} (hw : ∀ d ∈ tables_1, d.before a0 Z = true) : ((Jvm.Cond.laysFinal "com/example/tokenweave/tokenweave/core/EntryName" "com/example/tokenweave/tokenweave/core/EntryName" "hash" "Ljava/lang/String;")).before a0 Z = true := hw _ (List.mem_of_getElem? (i := 54) rfl)
theorem d9_14 : decode prog_6_method_1_code 14 = .ok (.aload_n 0, 1) := by decide +kernel
theorem d9_15 : decode prog_6_method_1_code 15 = .ok (.iload_n 3, 1) := by decide +kernel
theorem d9_16 : decode prog_6_method_1_code 16 = .ok (.putfield 17, 3) := by decide +kernel
theorem w55 {a0 : Array Value} {Z : State} (hw : ∀ d ∈ tables_1, d.before a0 Z = true) : ((Jvm.Cond.fieldLink "com/example/tokenweave/tokenweave/core/EntryName" (17 : Nat) "com/example/tokenweave/tokenweave/core/EntryName" "version" "I")).before a0 Z = true := hw _ (List.mem_of_getElem? (i := 55) rfl)
theorem w56 {a0 : Array Value} {Z : State} (hw : ∀ d ∈ tables_1, d.before a0 Z = true) : ((Jvm.Cond.laysFinal "com/example/tokenweave/tokenweave/core/EntryName" "com/example/tokenweave/tokenweave/core/EntryName" "version" "I")).before a0 Z = true := hw _ (List.mem_of_getElem? (i := 56) rfl)
theorem d9_19 : decode prog_6_method_1_code 19 = .ok (.return_, 1) := by decide +kernel
def rr_enInit : Room := { frames := 2, cells := 0, slots := 0, locals := 24 }
theorem pn22 : plainName "com/example/tokenweave/tokenweave/core/EntryName" = true := by first | (simp [plainName, overriddenIn]; done) | decide +kernel
set_option maxRecDepth 65536 in
set_option maxHeartbeats 40000000 in
theorem rm_enInit (l : Launch) (Z : State) (a0 : Array Value) (hw : ∀ d ∈ tables_1, d.before a0 Z = true) (ws : List Jvm.Cond) (a1 : Addr) (kd : Int32) (u : Addr) (ve : Int32) (h0 : Heap) (n0 : Nat) (Z0 : n0 ≤ h0.size) (E0 : Exa Z h0 a1 "com/example/tokenweave/tokenweave/core/EntryName") (g0 : n0 ≤ a1) (F0_0 : Fld Z h0 a1 "com/example/tokenweave/tokenweave/core/EntryName" "kind" "B" (.int (0 : Int32))) (F0_1 : Fld Z h0 a1 "com/example/tokenweave/tokenweave/core/EntryName" "hash" "Ljava/lang/String;" .null) (F0_2 : Fld Z h0 a1 "com/example/tokenweave/tokenweave/core/EntryName" "version" "I" (.int (0 : Int32))) (hkd : -128 ≤ kd.toInt ∧ kd.toInt < 128) :
    Con l Z (⟨"com/example/tokenweave/tokenweave/core/EntryName", "<init>", "(BLjava/lang/String;I)V"⟩ : MethodName) prog_6_method_1_code 4 none ws rr_enInit #[(.ref a1), (.int kd), (.ref u), (.int ve)] h0 (fun v h L => v = none ∧ Fr n0 L ∧ Keep h0 h [a1] ∧ Fld Z h a1 "com/example/tokenweave/tokenweave/core/EntryName" "kind" "B" (.int kd) ∧ Fld Z h a1 "com/example/tokenweave/tokenweave/core/EntryName" "hash" "Ljava/lang/String;" (.ref u) ∧ Fld Z h a1 "com/example/tokenweave/tokenweave/core/EntryName" "version" "I" (.int ve)) := by
  refine Con.enter (plainFor_of_name pn22) ?_
  intro p e s m below meth c s₁ X0 hx hZ hby hml hret hlk hown hnm e0
  have N0 := Fr.nil n0
  refine Go.cast (g' := (mkF m 0 #[.val (.ref a1), .val (.int kd), .val (.ref u), .val (.int ve)] [])) (by first | rfl | (simp [entryFrame, mkF, argsToLocals, Value.category]; done)) ?_
  refine Go.st (T' := s₁) (g' := (mkF m 1 #[.val (.ref a1), .val (.int kd), .val (.ref u), .val (.int ve)] [(.ref a1)])) (fun _ zk => XS.aloadN X0.here hx rfl (hb hby d9_0) rfl rfl zk) ?_
  refine Go.callSp (y := (⟨"java/lang/Record", "<init>", "()V"⟩ : MethodName)) (a := a1) X0 hx hZ hown e0 rfl (w45 hw) (w46 hw) (w48 hw) (w49 hw) (by decide) (argsL := []) (rest := []) (W := 0) (rm_recInit l Z a0 hw [] a1 h0 n0 Z0 ) rfl (lenOf pd21 rfl) rfl (by rw [hml]; rfl) rfl (by show 2 * 0 + _ ≤ _; exact Nat.le_of_eq rfl) (by decide) (by decide) (by decide) (by decide) (hb hby d9_1) ?_
  intro v1 T1 h1 L1 X1 e1 q1
  obtain ⟨hv1, Nf1, hh1⟩ := q1
  subst hv1
  have E1 : T1.heap = h0 := e1.trans hh1
  have N1 := Fr.app N0 Nf1
  show Go p.tables e below _ T1 (mkF m 4 #[.val (.ref a1), .val (.int kd), .val (.ref u), .val (.int ve)] [])
  refine Go.st (T' := T1) (g' := (mkF m 5 #[.val (.ref a1), .val (.int kd), .val (.ref u), .val (.int ve)] [(.ref a1)])) (fun _ zk => XS.aloadN X1.here hx rfl (hb hby d9_4) rfl rfl zk) ?_
  refine Go.st (T' := T1) (g' := (mkF m 6 #[.val (.ref a1), .val (.int kd), .val (.ref u), .val (.int ve)] [(.int kd), (.ref a1)])) (fun _ zk => XS.iloadN X1.here hx rfl (hb hby d9_5) rfl zk) ?_
  obtain ⟨T2, h2, X2, e2, W2, st2⟩ := putF X1 hx hZ hown (host := "") (Or.inl (w51 hw)) Via.refl E1 F0_0 E0 (Or.inr ⟨(w52 hw), rfl, hnm⟩) (w3 hw) (v := (.int kd)) (ty := .byte) (by decide) (congrArg Value.int (i2b_id hkd)) (by have q := fits_nar_byte kd; rwa [i2b_id hkd] at q) (g := (mkF m 6 #[.val (.ref a1), .val (.int kd), .val (.ref u), .val (.int ve)] [(.int kd), (.ref a1)])) rfl rfl (hb hby d9_6)
  have F2 := F0_0.same W2
  have N2 := Fr.snoc X2 N1 g0
  refine Go.st (T' := T2) (g' := (mkF m 9 #[.val (.ref a1), .val (.int kd), .val (.ref u), .val (.int ve)] [])) (fun _ zk => st2 _ zk) ?_
  refine Go.st (T' := T2) (g' := (mkF m 10 #[.val (.ref a1), .val (.int kd), .val (.ref u), .val (.int ve)] [(.ref a1)])) (fun _ zk => XS.aloadN X2.here hx rfl (hb hby d9_9) rfl rfl zk) ?_
  refine Go.st (T' := T2) (g' := (mkF m 11 #[.val (.ref a1), .val (.int kd), .val (.ref u), .val (.int ve)] [(.ref u), (.ref a1)])) (fun _ zk => XS.aloadN X2.here hx rfl (hb hby d9_10) rfl rfl zk) ?_
  have f4 := (F0_1.other W2 (Or.inr (slot_ne (Or.inr (w54 hw)) (Or.inr (w52 hw)) (by decide) (t := (.object "java/lang/String")) (t' := .byte) (by decide) (by decide))))
  have f5 := (E0.wr W2)
  obtain ⟨T3, h3, X3, e3, W3, st3⟩ := putF X2 hx hZ hown (host := "") (Or.inl (w53 hw)) Via.refl e2 f4 f5 (Or.inr ⟨(w54 hw), rfl, hnm⟩) (w3 hw) (ty := (.object "java/lang/String")) (by decide) rfl rfl (g := (mkF m 11 #[.val (.ref a1), .val (.int kd), .val (.ref u), .val (.int ve)] [(.ref u), (.ref a1)])) rfl rfl (hb hby d9_11)
  have F3 := f4.same W3
  have N3 := Fr.snoc X3 N2 g0
  refine Go.st (T' := T3) (g' := (mkF m 14 #[.val (.ref a1), .val (.int kd), .val (.ref u), .val (.int ve)] [])) (fun _ zk => st3 _ zk) ?_
  refine Go.st (T' := T3) (g' := (mkF m 15 #[.val (.ref a1), .val (.int kd), .val (.ref u), .val (.int ve)] [(.ref a1)])) (fun _ zk => XS.aloadN X3.here hx rfl (hb hby d9_14) rfl rfl zk) ?_
  refine Go.st (T' := T3) (g' := (mkF m 16 #[.val (.ref a1), .val (.int kd), .val (.ref u), .val (.int ve)] [(.int ve), (.ref a1)])) (fun _ zk => XS.iloadN X3.here hx rfl (hb hby d9_15) rfl zk) ?_
  have f7 := ((F0_2.other W2 (Or.inr (slot_ne (Or.inr (w56 hw)) (Or.inr (w52 hw)) (by decide) (t := .int) (t' := .byte) (by decide) (by decide)))).other W3 (Or.inr (slot_ne (Or.inr (w56 hw)) (Or.inr (w54 hw)) (by decide) (t := .int) (t' := (.object "java/lang/String")) (by decide) (by decide))))
  have f8 := (f5.wr W3)
  obtain ⟨T6, h6, X6, e6, W6, st6⟩ := putF X3 hx hZ hown (host := "") (Or.inl (w55 hw)) Via.refl e3 f7 f8 (Or.inr ⟨(w56 hw), rfl, hnm⟩) (w3 hw) (ty := .int) (by decide) rfl rfl (g := (mkF m 16 #[.val (.ref a1), .val (.int kd), .val (.ref u), .val (.int ve)] [(.int ve), (.ref a1)])) rfl rfl (hb hby d9_16)
  have F6 := f7.same W6
  have N6 := Fr.snoc X6 N3 g0
  refine Go.st (T' := T6) (g' := (mkF m 19 #[.val (.ref a1), .val (.int kd), .val (.ref u), .val (.int ve)] [])) (fun _ zk => st6 _ zk) ?_
  have f9 := ((F2.other W3 (Or.inr (slot_ne (Or.inr (w52 hw)) (Or.inr (w54 hw)) (by decide) (t := .byte) (t' := (.object "java/lang/String")) (by decide) (by decide)))).other W6 (Or.inr (slot_ne (Or.inr (w52 hw)) (Or.inr (w56 hw)) (by decide) (t := .byte) (t' := .int) (by decide) (by decide))))
  have f10 := (F3.other W6 (Or.inr (slot_ne (Or.inr (w54 hw)) (Or.inr (w56 hw)) (by decide) (t := (.object "java/lang/String")) (t' := .int) (by decide) (by decide))))
  refine Go.retV X6 hx hlk hret (hb hby d9_19) (by decide) (by decide) e6 ?_
  exact ⟨rfl, N6, ((((Keep.refl h0 [a1]).wr W2 (Or.inl (List.mem_of_getElem? (i := 0) rfl))).wr W3 (Or.inl (List.mem_of_getElem? (i := 0) rfl))).wr W6 (Or.inl (List.mem_of_getElem? (i := 0) rfl))), f9, f10, F6⟩
theorem own_dec {x : Int} (h : 0 ≤ x ∧ x ≤ 65535) : x = 4096 * (x / 4096 % 16) + 256 * (x / 256 % 16) + 16 * (x / 16 % 16) + x % 16 := by omega
theorem own_mono {c d a b : Int} (h1 : hx c a) (h2 : hx d b) (ha : 0 ≤ a ∧ a ≤ 15) (hb : 0 ≤ b ∧ b ≤ 15) : (c < d ↔ a < b) ∧ (c = d ↔ a = b) := by
  obtain ⟨p1, p2⟩ := h1
  obtain ⟨q1, q2⟩ := h2
  omega
theorem own_u {c : Int32} {z : Int} (h : hx c.toInt z) (hz : 0 ≤ z ∧ z ≤ 15) : ((c &&& (255 : Int32)).toUInt32.toUInt16.toUInt32.toInt32).toInt = c.toInt := by
  have b := own_hx h hz
  have m := c_mask c 255 8 (by decide) (by decide)
  have q := c_i2c (c &&& 255)
  omega
theorem own_sub {b d : Int32} {z w : Int} (hb : hx b.toInt z) (hz : 0 ≤ z ∧ z ≤ 15) (hd : hx d.toInt w) (hw : 0 ≤ w ∧ w ≤ 15) : (((b &&& (255 : Int32)).toUInt32.toUInt16.toUInt32.toInt32) - ((d &&& (255 : Int32)).toUInt32.toUInt16.toUInt32.toInt32)).toInt = b.toInt - d.toInt := by
  have u1 := own_u hb hz
  have u2 := own_u hd hw
  have g1 := own_hx hb hz
  have g2 := own_hx hd hw
  have s := c_isub ((b &&& (255 : Int32)).toUInt32.toUInt16.toUInt32.toInt32) ((d &&& (255 : Int32)).toUInt32.toUInt16.toUInt32.toInt32)
  have t := rng32 (((b &&& (255 : Int32)).toUInt32.toUInt16.toUInt32.toInt32) - ((d &&& (255 : Int32)).toUInt32.toUInt16.toUInt32.toInt32))
  omega
theorem own_c {x y rc c d a b : Int} (hm : (c < d ↔ a < b) ∧ (c = d ↔ a = b)) (hne : ¬ c = d) (hr : rc = c - d) (hlt : a < b → x < y) (hgt : b < a → y < x) : (rc < 0 ∧ x < y) ∨ (0 < rc ∧ y < x) ∨ (rc = 0 ∧ x = y) := by
  rcases Int.lt_trichotomy c d with q | q | q
  · exact Or.inl ⟨by omega, hlt (hm.1.mp q)⟩
  · exact absurd q hne
  · exact Or.inr (Or.inl ⟨by omega, hgt (by have := hm.1; have := hm.2; omega)⟩)
theorem own_lex0 {x y a0 a1 a2 a3 b0 b1 b2 b3 : Int} (dx : x = 4096 * a0 + 256 * a1 + 16 * a2 + a3) (dy : y = 4096 * b0 + 256 * b1 + 16 * b2 + b3) (ra0 : 0 ≤ a0 ∧ a0 ≤ 15) (ra1 : 0 ≤ a1 ∧ a1 ≤ 15) (ra2 : 0 ≤ a2 ∧ a2 ≤ 15) (ra3 : 0 ≤ a3 ∧ a3 ≤ 15) (rb0 : 0 ≤ b0 ∧ b0 ≤ 15) (rb1 : 0 ≤ b1 ∧ b1 ≤ 15) (rb2 : 0 ≤ b2 ∧ b2 ≤ 15) (rb3 : 0 ≤ b3 ∧ b3 ≤ 15)  : (a0 < b0 → x < y) ∧ (b0 < a0 → y < x) := by
  constructor <;> intro q <;> omega
theorem own_lex1 {x y a0 a1 a2 a3 b0 b1 b2 b3 : Int} (dx : x = 4096 * a0 + 256 * a1 + 16 * a2 + a3) (dy : y = 4096 * b0 + 256 * b1 + 16 * b2 + b3) (ra0 : 0 ≤ a0 ∧ a0 ≤ 15) (ra1 : 0 ≤ a1 ∧ a1 ≤ 15) (ra2 : 0 ≤ a2 ∧ a2 ≤ 15) (ra3 : 0 ≤ a3 ∧ a3 ≤ 15) (rb0 : 0 ≤ b0 ∧ b0 ≤ 15) (rb1 : 0 ≤ b1 ∧ b1 ≤ 15) (rb2 : 0 ≤ b2 ∧ b2 ≤ 15) (rb3 : 0 ≤ b3 ∧ b3 ≤ 15) (e0 : a0 = b0) : (a1 < b1 → x < y) ∧ (b1 < a1 → y < x) := by
  constructor <;> intro q <;> omega
theorem own_lex2 {x y a0 a1 a2 a3 b0 b1 b2 b3 : Int} (dx : x = 4096 * a0 + 256 * a1 + 16 * a2 + a3) (dy : y = 4096 * b0 + 256 * b1 + 16 * b2 + b3) (ra0 : 0 ≤ a0 ∧ a0 ≤ 15) (ra1 : 0 ≤ a1 ∧ a1 ≤ 15) (ra2 : 0 ≤ a2 ∧ a2 ≤ 15) (ra3 : 0 ≤ a3 ∧ a3 ≤ 15) (rb0 : 0 ≤ b0 ∧ b0 ≤ 15) (rb1 : 0 ≤ b1 ∧ b1 ≤ 15) (rb2 : 0 ≤ b2 ∧ b2 ≤ 15) (rb3 : 0 ≤ b3 ∧ b3 ≤ 15) (e0 : a0 = b0) (e1 : a1 = b1) : (a2 < b2 → x < y) ∧ (b2 < a2 → y < x) := by
  constructor <;> intro q <;> omega
theorem own_lex3 {x y a0 a1 a2 a3 b0 b1 b2 b3 : Int} (dx : x = 4096 * a0 + 256 * a1 + 16 * a2 + a3) (dy : y = 4096 * b0 + 256 * b1 + 16 * b2 + b3) (ra0 : 0 ≤ a0 ∧ a0 ≤ 15) (ra1 : 0 ≤ a1 ∧ a1 ≤ 15) (ra2 : 0 ≤ a2 ∧ a2 ≤ 15) (ra3 : 0 ≤ a3 ∧ a3 ≤ 15) (rb0 : 0 ≤ b0 ∧ b0 ≤ 15) (rb1 : 0 ≤ b1 ∧ b1 ≤ 15) (rb2 : 0 ≤ b2 ∧ b2 ≤ 15) (rb3 : 0 ≤ b3 ∧ b3 ≤ 15) (e0 : a0 = b0) (e1 : a1 = b1) (e2 : a2 = b2) : (a3 < b3 → x < y) ∧ (b3 < a3 → y < x) := by
  constructor <;> intro q <;> omega
theorem own_str {x y r b0 b1 b2 b3 d0 d1 d2 d3 : Int32} (hx0 : 0 ≤ x.toInt ∧ x.toInt ≤ 65535) (hy0 : 0 ≤ y.toInt ∧ y.toInt ≤ 65535) (hb : hx b0.toInt (x.toInt / 4096 % 16) ∧ hx b1.toInt (x.toInt / 256 % 16) ∧ hx b2.toInt (x.toInt / 16 % 16) ∧ hx b3.toInt (x.toInt % 16)) (hd : hx d0.toInt (y.toInt / 4096 % 16) ∧ hx d1.toInt (y.toInt / 256 % 16) ∧ hx d2.toInt (y.toInt / 16 % 16) ∧ hx d3.toInt (y.toInt % 16)) (hr : (¬ b0 = d0 ∧ r = ((b0 &&& (255 : Int32)).toUInt32.toUInt16.toUInt32.toInt32) - ((d0 &&& (255 : Int32)).toUInt32.toUInt16.toUInt32.toInt32)) ∨ (b0 = d0 ∧ ¬ b1 = d1 ∧ r = ((b1 &&& (255 : Int32)).toUInt32.toUInt16.toUInt32.toInt32) - ((d1 &&& (255 : Int32)).toUInt32.toUInt16.toUInt32.toInt32)) ∨ (b0 = d0 ∧ b1 = d1 ∧ ¬ b2 = d2 ∧ r = ((b2 &&& (255 : Int32)).toUInt32.toUInt16.toUInt32.toInt32) - ((d2 &&& (255 : Int32)).toUInt32.toUInt16.toUInt32.toInt32)) ∨ (b0 = d0 ∧ b1 = d1 ∧ b2 = d2 ∧ ¬ b3 = d3 ∧ r = ((b3 &&& (255 : Int32)).toUInt32.toUInt16.toUInt32.toInt32) - ((d3 &&& (255 : Int32)).toUInt32.toUInt16.toUInt32.toInt32)) ∨ (b0 = d0 ∧ b1 = d1 ∧ b2 = d2 ∧ b3 = d3 ∧ r = 0)) : (r.toInt < 0 ∧ x.toInt < y.toInt) ∨ (0 < r.toInt ∧ y.toInt < x.toInt) ∨ (r.toInt = 0 ∧ x.toInt = y.toInt) := by
  obtain ⟨p0, p1, p2, p3⟩ := hb
  obtain ⟨q0, q1, q2, q3⟩ := hd
  have dx := own_dec hx0
  have dy := own_dec hy0
  have ra0 : 0 ≤ (x.toInt / 4096 % 16) ∧ (x.toInt / 4096 % 16) ≤ 15 := ⟨by omega, by omega⟩
  have ra1 : 0 ≤ (x.toInt / 256 % 16) ∧ (x.toInt / 256 % 16) ≤ 15 := ⟨by omega, by omega⟩
  have ra2 : 0 ≤ (x.toInt / 16 % 16) ∧ (x.toInt / 16 % 16) ≤ 15 := ⟨by omega, by omega⟩
  have ra3 : 0 ≤ (x.toInt % 16) ∧ (x.toInt % 16) ≤ 15 := ⟨by omega, by omega⟩
  have rb0 : 0 ≤ (y.toInt / 4096 % 16) ∧ (y.toInt / 4096 % 16) ≤ 15 := ⟨by omega, by omega⟩
  have rb1 : 0 ≤ (y.toInt / 256 % 16) ∧ (y.toInt / 256 % 16) ≤ 15 := ⟨by omega, by omega⟩
  have rb2 : 0 ≤ (y.toInt / 16 % 16) ∧ (y.toInt / 16 % 16) ≤ 15 := ⟨by omega, by omega⟩
  have rb3 : 0 ≤ (y.toInt % 16) ∧ (y.toInt % 16) ≤ 15 := ⟨by omega, by omega⟩
  have m0 := own_mono p0 q0 ra0 rb0
  have m1 := own_mono p1 q1 ra1 rb1
  have m2 := own_mono p2 q2 ra2 rb2
  have m3 := own_mono p3 q3 ra3 rb3
  have s0 := own_sub p0 ra0 q0 rb0
  have s1 := own_sub p1 ra1 q1 rb1
  have s2 := own_sub p2 ra2 q2 rb2
  have s3 := own_sub p3 ra3 q3 rb3
  rcases hr with ⟨e0, rfl⟩ | ⟨e0, e1, rfl⟩ | ⟨e0, e1, e2, rfl⟩ | ⟨e0, e1, e2, e3, rfl⟩ | ⟨e0, e1, e2, e3, rfl⟩
  · have lx := own_lex0 dx dy ra0 ra1 ra2 ra3 rb0 rb1 rb2 rb3 ; exact own_c m0 (fun q => e0 (Int32.toInt_inj.mp q)) s0 lx.1 lx.2
  · have lx := own_lex1 dx dy ra0 ra1 ra2 ra3 rb0 rb1 rb2 rb3 (m0.2.mp (t_eq e0)); exact own_c m1 (fun q => e1 (Int32.toInt_inj.mp q)) s1 lx.1 lx.2
  · have lx := own_lex2 dx dy ra0 ra1 ra2 ra3 rb0 rb1 rb2 rb3 (m0.2.mp (t_eq e0)) (m1.2.mp (t_eq e1)); exact own_c m2 (fun q => e2 (Int32.toInt_inj.mp q)) s2 lx.1 lx.2
  · have lx := own_lex3 dx dy ra0 ra1 ra2 ra3 rb0 rb1 rb2 rb3 (m0.2.mp (t_eq e0)) (m1.2.mp (t_eq e1)) (m2.2.mp (t_eq e2)); exact own_c m3 (fun q => e3 (Int32.toInt_inj.mp q)) s3 lx.1 lx.2
  · exact Or.inr (Or.inr ⟨k_0, by rw [dx, dy, m0.2.mp (t_eq e0), m1.2.mp (t_eq e1), m2.2.mp (t_eq e2), m3.2.mp (t_eq e3)]⟩)
theorem d11_0 : decode prog_6_method_7_code 0 = .ok (.aload_n 0, 1) := by decide +kernel
theorem d11_1 : decode prog_6_method_7_code 1 = .ok (.getfield 7, 3) := by decide +kernel
theorem d11_4 : decode prog_6_method_7_code 4 = .ok (.aload_n 1, 1) := by decide +kernel
theorem d11_5 : decode prog_6_method_7_code 5 = .ok (.getfield 7, 3) := by decide +kernel
theorem w65 {a0 : Array Value} {Z : State} (hw : ∀ d ∈ tables_1, d.before a0 Z = true) : ((Jvm.Cond.code ({ cls := "java/lang/Byte", name := "compare", desc := "(BB)I" } : Jvm.MethodName) jdk_2056_method_22_code (2 : Nat) (Option.some Jvm.ClassFile.FieldType.int))).before a0 Z = true := hw _ (List.mem_of_getElem? (i := 65) rfl)
theorem w64 {a0 : Array Value} {Z : State} (hw : ∀ d ∈ tables_1, d.before a0 Z = true) : ((Jvm.Cond.initialized "java/lang/Byte")).before a0 Z = true := hw _ (List.mem_of_getElem? (i := 64) rfl)
theorem pd23 : parseMethodDescriptor "(BB)I" = some ⟨[.byte, .byte], some .int⟩ := by decide +kernel
theorem d11_8 : decode prog_6_method_7_code 8 = .ok (.invokestatic 75, 3) := by decide +kernel
theorem w62 {a0 : Array Value} {Z : State} (hw : ∀ d ∈ tables_1, d.before a0 Z = true) : ((Jvm.Cond.methodLink "com/example/tokenweave/tokenweave/core/EntryName" (75 : Nat) ({ cls := "java/lang/Byte", name := "compare", desc := "(BB)I" } : Jvm.MethodName))).before a0 Z = true := hw _ (List.mem_of_getElem? (i := 62) rfl)
theorem w63 {a0 : Array Value} {Z : State} (hw : ∀ d ∈ tables_1, d.before a0 Z = true) : ((Jvm.Cond.static ({ cls := "java/lang/Byte", name := "compare", desc := "(BB)I" } : Jvm.MethodName))).before a0 Z = true := hw _ (List.mem_of_getElem? (i := 63) rfl)
theorem d11_11 : decode prog_6_method_7_code 11 = .ok (.istore_n 2, 1) := by decide +kernel
theorem d11_12 : decode prog_6_method_7_code 12 = .ok (.iload_n 2, 1) := by decide +kernel
theorem d11_13 : decode prog_6_method_7_code 13 = .ok (.ifCond .ne 15, 3) := by decide +kernel
theorem d11_16 : decode prog_6_method_7_code 16 = .ok (.aload_n 0, 1) := by decide +kernel
theorem d11_17 : decode prog_6_method_7_code 17 = .ok (.getfield 13, 3) := by decide +kernel
theorem d11_20 : decode prog_6_method_7_code 20 = .ok (.aload_n 1, 1) := by decide +kernel
theorem d11_21 : decode prog_6_method_7_code 21 = .ok (.getfield 13, 3) := by decide +kernel
theorem w73 {a0 : Array Value} {Z : State} (hw : ∀ d ∈ tables_1, d.before a0 Z = true) : ((Jvm.Cond.code ({ cls := "java/lang/String", name := "compareTo", desc := "(Ljava/lang/String;)I" } : Jvm.MethodName) jdk_42_method_71_code (5 : Nat) (Option.some Jvm.ClassFile.FieldType.int))).before a0 Z = true := hw _ (List.mem_of_getElem? (i := 73) rfl)
theorem pd24 : parseMethodDescriptor "(Ljava/lang/String;)I" = some ⟨[(.object "java/lang/String")], some .int⟩ := by decide +kernel
theorem d11_24 : decode prog_6_method_7_code 24 = .ok (.invokevirtual 81, 3) := by decide +kernel
theorem w72 {a0 : Array Value} {Z : State} (hw : ∀ d ∈ tables_1, d.before a0 Z = true) : ((Jvm.Cond.selects "java/lang/String" ({ cls := "java/lang/String", name := "compareTo", desc := "(Ljava/lang/String;)I" } : Jvm.MethodName) ({ cls := "java/lang/String", name := "compareTo", desc := "(Ljava/lang/String;)I" } : Jvm.MethodName))).before a0 Z = true := hw _ (List.mem_of_getElem? (i := 72) rfl)
theorem w71 {a0 : Array Value} {Z : State} (hw : ∀ d ∈ tables_1, d.before a0 Z = true) : ((Jvm.Cond.instanceMethod ({ cls := "java/lang/String", name := "compareTo", desc := "(Ljava/lang/String;)I" } : Jvm.MethodName))).before a0 Z = true := hw _ (List.mem_of_getElem? (i := 71) rfl)
theorem w69 {a0 : Array Value} {Z : State} (hw : ∀ d ∈ tables_1, d.before a0 Z = true) : ((Jvm.Cond.methodLink "com/example/tokenweave/tokenweave/core/EntryName" (81 : Nat) ({ cls := "java/lang/String", name := "compareTo", desc := "(Ljava/lang/String;)I" } : Jvm.MethodName))).before a0 Z = true := hw _ (List.mem_of_getElem? (i := 69) rfl)
theorem w70 {a0 : Array Value} {Z : State} (hw : ∀ d ∈ tables_1, d.before a0 Z = true) : ((Jvm.Cond.declares ({ cls := "java/lang/String", name := "compareTo", desc := "(Ljava/lang/String;)I" } : Jvm.MethodName))).before a0 Z = true := hw _ (List.mem_of_getElem? (i := 70) rfl)
theorem d11_27 : decode prog_6_method_7_code 27 = .ok (.istore_n 2, 1) := by decide +kernel
theorem d11_28 : decode prog_6_method_7_code 28 = .ok (.iload_n 2, 1) := by decide +kernel
theorem d11_29 : decode prog_6_method_7_code 29 = .ok (.ifCond .eq 7, 3) := by decide +kernel
theorem d11_36 : decode prog_6_method_7_code 36 = .ok (.aload_n 0, 1) := by decide +kernel
theorem d11_37 : decode prog_6_method_7_code 37 = .ok (.getfield 17, 3) := by decide +kernel
theorem d11_40 : decode prog_6_method_7_code 40 = .ok (.aload_n 1, 1) := by decide +kernel
theorem d11_41 : decode prog_6_method_7_code 41 = .ok (.getfield 17, 3) := by decide +kernel
theorem w100 {a0 : Array Value} {Z : State} (hw : ∀ d ∈ tables_1, d.before a0 Z = true) : ((Jvm.Cond.code ({ cls := "java/lang/Integer", name := "compare", desc := "(II)I" } : Jvm.MethodName) jdk_33_method_40_code (2 : Nat) (Option.some Jvm.ClassFile.FieldType.int))).before a0 Z = true := hw _ (List.mem_of_getElem? (i := 100) rfl)
theorem w99 {a0 : Array Value} {Z : State} (hw : ∀ d ∈ tables_1, d.before a0 Z = true) : ((Jvm.Cond.initialized "java/lang/Integer")).before a0 Z = true := hw _ (List.mem_of_getElem? (i := 99) rfl)
theorem d11_44 : decode prog_6_method_7_code 44 = .ok (.invokestatic 87, 3) := by decide +kernel
theorem w97 {a0 : Array Value} {Z : State} (hw : ∀ d ∈ tables_1, d.before a0 Z = true) : ((Jvm.Cond.methodLink "com/example/tokenweave/tokenweave/core/EntryName" (87 : Nat) ({ cls := "java/lang/Integer", name := "compare", desc := "(II)I" } : Jvm.MethodName))).before a0 Z = true := hw _ (List.mem_of_getElem? (i := 97) rfl)
theorem w98 {a0 : Array Value} {Z : State} (hw : ∀ d ∈ tables_1, d.before a0 Z = true) : ((Jvm.Cond.static ({ cls := "java/lang/Integer", name := "compare", desc := "(II)I" } : Jvm.MethodName))).before a0 Z = true := hw _ (List.mem_of_getElem? (i := 98) rfl)
theorem d11_47 : decode prog_6_method_7_code 47 = .ok (.ireturn, 1) := by decide +kernel
theorem d11_32 : decode prog_6_method_7_code 32 = .ok (.iload_n 2, 1) := by decide +kernel
theorem d11_33 : decode prog_6_method_7_code 33 = .ok (.goto 14, 3) := by decide +kernel
def rr_compareTo : Room := { frames := 4, cells := 0, slots := 0, locals := 63 }
set_option maxRecDepth 65536 in
set_option maxHeartbeats 40000000 in
theorem rm_compareTo (l : Launch) (Z : State) (a0 : Array Value) (hw : ∀ d ∈ tables_1, d.before a0 Z = true) (ws : List Jvm.Cond) (a1 a2 x1 y1 : Addr) (ka kb va vb x y b0 b1 b2 b3 d0 d1 d2 d3 zc : Int32) (h0 : Heap) (n0 : Nat) (Z0 : n0 ≤ h0.size) (O0 : Old Z n0 h0) (K1 : Fld Z h0 a1 "com/example/tokenweave/tokenweave/core/EntryName" "kind" "B" (.int ka)) (K2 : Fld Z h0 a2 "com/example/tokenweave/tokenweave/core/EntryName" "kind" "B" (.int kb)) (H1 : Fld Z h0 a1 "com/example/tokenweave/tokenweave/core/EntryName" "hash" "Ljava/lang/String;" (.ref x1)) (H2 : Fld Z h0 a2 "com/example/tokenweave/tokenweave/core/EntryName" "hash" "Ljava/lang/String;" (.ref y1)) (W1 : Fld Z h0 a1 "com/example/tokenweave/tokenweave/core/EntryName" "version" "I" (.int va)) (W2 : Fld Z h0 a2 "com/example/tokenweave/tokenweave/core/EntryName" "version" "I" (.int vb)) (S1 : StrB Z h0 x1 0 [b0, b1, b2, b3]) (S2 : StrB Z h0 y1 0 [d0, d1, d2, d3]) (CS : Sta Z Z.heap "java/lang/String" "COMPACT_STRINGS" "Z" (.int zc)) (hz : ¬ zc = 0) (bk : 1 ≤ ka.toInt ∧ ka.toInt ≤ 2) (bk' : 1 ≤ kb.toInt ∧ kb.toInt ≤ 2) (bx : 0 ≤ x.toInt ∧ x.toInt ≤ 65535) (by' : 0 ≤ y.toInt ∧ y.toInt ≤ 65535) (hb4 : hx b0.toInt (x.toInt / 4096 % 16) ∧ hx b1.toInt (x.toInt / 256 % 16) ∧ hx b2.toInt (x.toInt / 16 % 16) ∧ hx b3.toInt (x.toInt % 16)) (hd4 : hx d0.toInt (y.toInt / 4096 % 16) ∧ hx d1.toInt (y.toInt / 256 % 16) ∧ hx d2.toInt (y.toInt / 16 % 16) ∧ hx d3.toInt (y.toInt % 16)) :
    Con l Z (⟨"com/example/tokenweave/tokenweave/core/EntryName", "compareTo", "(Lcom/example/tokenweave/tokenweave/core/EntryName;)I"⟩ : MethodName) prog_6_method_7_code 3 (some .int) ws rr_compareTo #[(.ref a1), (.ref a2)] h0 (fun v h L => ∃ r : Int32, v = some (.int r) ∧ ((r.toInt < 0 ∧ (ka.toInt < kb.toInt ∨ (ka.toInt = kb.toInt ∧ (x.toInt < y.toInt ∨ (x.toInt = y.toInt ∧ va.toInt < vb.toInt))))) ∨ (0 < r.toInt ∧ (kb.toInt < ka.toInt ∨ (kb.toInt = ka.toInt ∧ (y.toInt < x.toInt ∨ (y.toInt = x.toInt ∧ vb.toInt < va.toInt))))) ∨ (r.toInt = 0 ∧ (ka.toInt = kb.toInt ∧ x.toInt = y.toInt ∧ va.toInt = vb.toInt))) ∧ Fr n0 L ∧ h = h0) := by
  refine Con.enter (plainFor_of_name pn22) ?_
  intro p e s m below meth c s₁ X0 hx hZ hby hml hret hlk hown hnm e0
  have N0 := Fr.nil n0
  refine Go.cast (g' := (mkF m 0 #[.val (.ref a1), .val (.ref a2), .unset] [])) (by first | rfl | (simp [entryFrame, mkF, argsToLocals, Value.category]; done)) ?_
  refine Go.st (T' := s₁) (g' := (mkF m 1 #[.val (.ref a1), .val (.ref a2), .unset] [(.ref a1)])) (fun _ zk => XS.aloadN X0.here hx rfl (hb hby d11_0) rfl rfl zk) ?_
  obtain ⟨T1, X1, e1, st1⟩ := getF X0 hx hZ hown (host := "") (Or.inl (w51 hw)) Via.refl e0 K1 (g := (mkF m 1 #[.val (.ref a1), .val (.ref a2), .unset] [(.ref a1)])) rfl rfl (hb hby d11_1)
  refine Go.st (T' := T1) (g' := (mkF m 4 #[.val (.ref a1), .val (.ref a2), .unset] [(.int ka)])) (fun _ zk => st1 _ zk) ?_
  refine Go.st (T' := T1) (g' := (mkF m 5 #[.val (.ref a1), .val (.ref a2), .unset] [(.ref a2), (.int ka)])) (fun _ zk => XS.aloadN X1.here hx rfl (hb hby d11_4) rfl rfl zk) ?_
  obtain ⟨T2, X2, e2, st2⟩ := getF X1 hx hZ hown (host := "") (Or.inl (w51 hw)) Via.refl e1 K2 (g := (mkF m 5 #[.val (.ref a1), .val (.ref a2), .unset] [(.ref a2), (.int ka)])) rfl rfl (hb hby d11_5)
  refine Go.st (T' := T2) (g' := (mkF m 8 #[.val (.ref a1), .val (.ref a2), .unset] [(.int kb), (.int ka)])) (fun _ zk => st2 _ zk) ?_
  refine Go.callSt (y := (⟨"java/lang/Byte", "compare", "(BB)I"⟩ : MethodName)) X2 hx hZ hown e2 (w62 hw) (w63 hw) (w64 hw) (w65 hw) (by decide) (argsL := [(.int ka), (.int kb)]) (rest := []) (W := 0) (rm_byteCmp l Z a0 hw [] ka kb h0 n0 Z0 ) rfl (lenOf pd23 rfl) rfl (by rw [hml]; rfl) rfl (by show 2 * 0 + _ ≤ _; exact Nat.le_of_eq rfl) (by decide) (by decide) (by decide) (by decide) (hb hby d11_8) ?_
  intro v3 T3 h3 L3 X3 e3 q3
  obtain ⟨hv3, Nf3, hh3⟩ := q3
  subst hv3
  have E3 : T3.heap = h0 := e3.trans hh3
  have N3 := Fr.app N0 Nf3
  show Go p.tables e below _ T3 (mkF m 11 #[.val (.ref a1), .val (.ref a2), .unset] [(.int (ka - kb))])
  have sk := c_isub ka kb
  have rk := rng32 (ka - kb)
  refine Go.st (T' := T3) (g' := (mkF m 12 #[.val (.ref a1), .val (.ref a2), .val (.int (ka - kb))] [])) (fun _ zk => XS.istoreN X3.here hx rfl (hb hby d11_11) rfl (l' := #[.val (.ref a1), .val (.ref a2), .val (.int (ka - kb))]) rfl zk) ?_
  refine Go.st (T' := T3) (g' := (mkF m 13 #[.val (.ref a1), .val (.ref a2), .val (.int (ka - kb))] [(.int (ka - kb))])) (fun _ zk => XS.iloadN X3.here hx rfl (hb hby d11_12) rfl zk) ?_
  by_cases hc13 : (ka - kb) = (0 : Int32)
  · refine Go.st (T' := T3) (g' := (mkF m 16 #[.val (.ref a1), .val (.ref a2), .val (.int (ka - kb))] [])) (fun _ zk => XS.ifNo X3.here hx rfl (hb hby d11_13) rfl ((if0 _ _).trans (teq hc13).2) zk) ?_
    refine Go.st (T' := T3) (g' := (mkF m 17 #[.val (.ref a1), .val (.ref a2), .val (.int (ka - kb))] [(.ref a1)])) (fun _ zk => XS.aloadN X3.here hx rfl (hb hby d11_16) rfl rfl zk) ?_
    obtain ⟨T4, X4, e4, st4⟩ := getF X3 hx hZ hown (host := "") (Or.inl (w53 hw)) Via.refl E3 H1 (g := (mkF m 17 #[.val (.ref a1), .val (.ref a2), .val (.int (ka - kb))] [(.ref a1)])) rfl rfl (hb hby d11_17)
    refine Go.st (T' := T4) (g' := (mkF m 20 #[.val (.ref a1), .val (.ref a2), .val (.int (ka - kb))] [(.ref x1)])) (fun _ zk => st4 _ zk) ?_
    refine Go.st (T' := T4) (g' := (mkF m 21 #[.val (.ref a1), .val (.ref a2), .val (.int (ka - kb))] [(.ref a2), (.ref x1)])) (fun _ zk => XS.aloadN X4.here hx rfl (hb hby d11_20) rfl rfl zk) ?_
    obtain ⟨T5, X5, e5, st5⟩ := getF X4 hx hZ hown (host := "") (Or.inl (w53 hw)) Via.refl e4 H2 (g := (mkF m 21 #[.val (.ref a1), .val (.ref a2), .val (.int (ka - kb))] [(.ref a2), (.ref x1)])) rfl rfl (hb hby d11_21)
    refine Go.st (T' := T5) (g' := (mkF m 24 #[.val (.ref a1), .val (.ref a2), .val (.int (ka - kb))] [(.ref y1), (.ref x1)])) (fun _ zk => st5 _ zk) ?_
    refine Go.callV (y := (⟨"java/lang/String", "compareTo", "(Ljava/lang/String;)I"⟩ : MethodName)) (z := (⟨"java/lang/String", "compareTo", "(Ljava/lang/String;)I"⟩ : MethodName)) (C := "java/lang/String") (a := x1) X5 hx hZ hown e5 (w69 hw) (w70 hw) (w72 hw) (w71 hw) (w15 hw) (w73 hw) (notFace_of_selects (args := #[]) (mvT hZ (w72 hw))) (by decide) S1.exa (argsL := [(.ref y1)]) (rest := []) (W := 0) (rm_strCmp l Z a0 hw [] x1 y1 b0 b1 b2 b3 d0 d1 d2 d3 zc h0 n0 Z0 O0 S1 S2 CS hz) rfl (lenOf pd24 rfl) rfl (by rw [hml]; rfl) rfl (by show 2 * 0 + _ ≤ _; exact Nat.le_of_eq rfl) (by decide) (by decide) (by decide) (by decide) (hb hby d11_24) ?_
    intro v6 T6 h6 L6 X6 e6 q6
    obtain ⟨r6, hv6, hr6, Nf6, hh6⟩ := q6
    subst hv6
    have E6 : T6.heap = h0 := e6.trans hh6
    have N6 := Fr.app N3 Nf6
    show Go p.tables e below _ T6 (mkF m 27 #[.val (.ref a1), .val (.ref a2), .val (.int (ka - kb))] [(.int r6)])
    have hst := own_str bx by' hb4 hd4 hr6
    refine Go.st (T' := T6) (g' := (mkF m 28 #[.val (.ref a1), .val (.ref a2), .val (.int r6)] [])) (fun _ zk => XS.istoreN X6.here hx rfl (hb hby d11_27) rfl (l' := #[.val (.ref a1), .val (.ref a2), .val (.int r6)]) rfl zk) ?_
    refine Go.st (T' := T6) (g' := (mkF m 29 #[.val (.ref a1), .val (.ref a2), .val (.int r6)] [(.int r6)])) (fun _ zk => XS.iloadN X6.here hx rfl (hb hby d11_28) rfl zk) ?_
    by_cases hc29 : r6 = (0 : Int32)
    · refine Go.st (T' := T6) (g' := (mkF m 36 #[.val (.ref a1), .val (.ref a2), .val (.int r6)] [])) (fun _ zk => XS.ifYes X6.here hx rfl (pc0 := 29) (pc' := 36) rfl (hb hby d11_29) rfl ((if0 _ _).trans (teq hc29).1) (by decide) (by decide) zk) ?_
      refine Go.st (T' := T6) (g' := (mkF m 37 #[.val (.ref a1), .val (.ref a2), .val (.int r6)] [(.ref a1)])) (fun _ zk => XS.aloadN X6.here hx rfl (hb hby d11_36) rfl rfl zk) ?_
      obtain ⟨T7, X7, e7, st7⟩ := getF X6 hx hZ hown (host := "") (Or.inl (w55 hw)) Via.refl E6 W1 (g := (mkF m 37 #[.val (.ref a1), .val (.ref a2), .val (.int r6)] [(.ref a1)])) rfl rfl (hb hby d11_37)
      refine Go.st (T' := T7) (g' := (mkF m 40 #[.val (.ref a1), .val (.ref a2), .val (.int r6)] [(.int va)])) (fun _ zk => st7 _ zk) ?_
      refine Go.st (T' := T7) (g' := (mkF m 41 #[.val (.ref a1), .val (.ref a2), .val (.int r6)] [(.ref a2), (.int va)])) (fun _ zk => XS.aloadN X7.here hx rfl (hb hby d11_40) rfl rfl zk) ?_
      obtain ⟨T8, X8, e8, st8⟩ := getF X7 hx hZ hown (host := "") (Or.inl (w55 hw)) Via.refl e7 W2 (g := (mkF m 41 #[.val (.ref a1), .val (.ref a2), .val (.int r6)] [(.ref a2), (.int va)])) rfl rfl (hb hby d11_41)
      refine Go.st (T' := T8) (g' := (mkF m 44 #[.val (.ref a1), .val (.ref a2), .val (.int r6)] [(.int vb), (.int va)])) (fun _ zk => st8 _ zk) ?_
      refine Go.callSt (y := (⟨"java/lang/Integer", "compare", "(II)I"⟩ : MethodName)) X8 hx hZ hown e8 (w97 hw) (w98 hw) (w99 hw) (w100 hw) (by decide) (argsL := [(.int va), (.int vb)]) (rest := []) (W := 0) (rm_intCmp l Z a0 hw [] va vb h0 n0 Z0 ) rfl (lenOf pd14 rfl) rfl (by rw [hml]; rfl) rfl (by show 2 * 0 + _ ≤ _; exact Nat.le_of_eq rfl) (by decide) (by decide) (by decide) (by decide) (hb hby d11_44) ?_
      intro v9 T9 h9 L9 X9 e9 q9
      obtain ⟨r9, hv9, hr9, Nf9, hh9⟩ := q9
      subst hv9
      have E9 : T9.heap = h0 := e9.trans hh9
      have N9 := Fr.app N6 Nf9
      show Go p.tables e below _ T9 (mkF m 47 #[.val (.ref a1), .val (.ref a2), .val (.int r6)] [(.int r9)])
      have hic := hr9
      refine Go.retN X9 hx hlk hret rfl (by simp) (hb hby d11_47) (by decide) (by decide) E9 ?_
      have z_hc13 := t_eq hc13
      have z_hc29 := t_eq hc29
      have k0 := k_0
      have k1 := k_1
      have km := k_m1
      exact ⟨_, rfl, by omega, N9, rfl⟩
    · refine Go.st (T' := T6) (g' := (mkF m 32 #[.val (.ref a1), .val (.ref a2), .val (.int r6)] [])) (fun _ zk => XS.ifNo X6.here hx rfl (hb hby d11_29) rfl ((if0 _ _).trans (feq hc29).1) zk) ?_
      refine Go.st (T' := T6) (g' := (mkF m 33 #[.val (.ref a1), .val (.ref a2), .val (.int r6)] [(.int r6)])) (fun _ zk => XS.iloadN X6.here hx rfl (hb hby d11_32) rfl zk) ?_
      refine Go.st (T' := T6) (g' := (mkF m 47 #[.val (.ref a1), .val (.ref a2), .val (.int r6)] [(.int r6)])) (fun _ zk => XS.goto X6.here hx rfl (pc0 := 33) (pc' := 47) rfl (hb hby d11_33) (by decide) (by decide) zk) ?_
      refine Go.retN X6 hx hlk hret rfl (by simp) (hb hby d11_47) (by decide) (by decide) E6 ?_
      have z_hc13 := t_eq hc13
      have z_hc29 := t_ne hc29
      have k0 := k_0
      have k1 := k_1
      have km := k_m1
      exact ⟨_, rfl, by omega, N6, rfl⟩
  · refine Go.st (T' := T3) (g' := (mkF m 28 #[.val (.ref a1), .val (.ref a2), .val (.int (ka - kb))] [])) (fun _ zk => XS.ifYes X3.here hx rfl (pc0 := 13) (pc' := 28) rfl (hb hby d11_13) rfl ((if0 _ _).trans (feq hc13).2) (by decide) (by decide) zk) ?_
    refine Go.st (T' := T3) (g' := (mkF m 29 #[.val (.ref a1), .val (.ref a2), .val (.int (ka - kb))] [(.int (ka - kb))])) (fun _ zk => XS.iloadN X3.here hx rfl (hb hby d11_28) rfl zk) ?_
    by_cases hc29 : (ka - kb) = (0 : Int32)
    · refine Go.st (T' := T3) (g' := (mkF m 36 #[.val (.ref a1), .val (.ref a2), .val (.int (ka - kb))] [])) (fun _ zk => XS.ifYes X3.here hx rfl (pc0 := 29) (pc' := 36) rfl (hb hby d11_29) rfl ((if0 _ _).trans (teq hc29).1) (by decide) (by decide) zk) ?_
      refine Go.st (T' := T3) (g' := (mkF m 37 #[.val (.ref a1), .val (.ref a2), .val (.int (ka - kb))] [(.ref a1)])) (fun _ zk => XS.aloadN X3.here hx rfl (hb hby d11_36) rfl rfl zk) ?_
      obtain ⟨T10, X10, e10, st10⟩ := getF X3 hx hZ hown (host := "") (Or.inl (w55 hw)) Via.refl E3 W1 (g := (mkF m 37 #[.val (.ref a1), .val (.ref a2), .val (.int (ka - kb))] [(.ref a1)])) rfl rfl (hb hby d11_37)
      refine Go.st (T' := T10) (g' := (mkF m 40 #[.val (.ref a1), .val (.ref a2), .val (.int (ka - kb))] [(.int va)])) (fun _ zk => st10 _ zk) ?_
      refine Go.st (T' := T10) (g' := (mkF m 41 #[.val (.ref a1), .val (.ref a2), .val (.int (ka - kb))] [(.ref a2), (.int va)])) (fun _ zk => XS.aloadN X10.here hx rfl (hb hby d11_40) rfl rfl zk) ?_
      obtain ⟨T11, X11, e11, st11⟩ := getF X10 hx hZ hown (host := "") (Or.inl (w55 hw)) Via.refl e10 W2 (g := (mkF m 41 #[.val (.ref a1), .val (.ref a2), .val (.int (ka - kb))] [(.ref a2), (.int va)])) rfl rfl (hb hby d11_41)
      refine Go.st (T' := T11) (g' := (mkF m 44 #[.val (.ref a1), .val (.ref a2), .val (.int (ka - kb))] [(.int vb), (.int va)])) (fun _ zk => st11 _ zk) ?_
      refine Go.callSt (y := (⟨"java/lang/Integer", "compare", "(II)I"⟩ : MethodName)) X11 hx hZ hown e11 (w97 hw) (w98 hw) (w99 hw) (w100 hw) (by decide) (argsL := [(.int va), (.int vb)]) (rest := []) (W := 0) (rm_intCmp l Z a0 hw [] va vb h0 n0 Z0 ) rfl (lenOf pd14 rfl) rfl (by rw [hml]; rfl) rfl (by show 2 * 0 + _ ≤ _; exact Nat.le_of_eq rfl) (by decide) (by decide) (by decide) (by decide) (hb hby d11_44) ?_
      intro v12 T12 h12 L12 X12 e12 q12
      obtain ⟨r12, hv12, hr12, Nf12, hh12⟩ := q12
      subst hv12
      have E12 : T12.heap = h0 := e12.trans hh12
      have N12 := Fr.app N3 Nf12
      show Go p.tables e below _ T12 (mkF m 47 #[.val (.ref a1), .val (.ref a2), .val (.int (ka - kb))] [(.int r12)])
      have hic := hr12
      refine Go.retN X12 hx hlk hret rfl (by simp) (hb hby d11_47) (by decide) (by decide) E12 ?_
      have z_hc13 := t_ne hc13
      have z_hc29 := t_eq hc29
      have k0 := k_0
      have k1 := k_1
      have km := k_m1
      exact ⟨_, rfl, by omega, N12, rfl⟩
    · refine Go.st (T' := T3) (g' := (mkF m 32 #[.val (.ref a1), .val (.ref a2), .val (.int (ka - kb))] [])) (fun _ zk => XS.ifNo X3.here hx rfl (hb hby d11_29) rfl ((if0 _ _).trans (feq hc29).1) zk) ?_
      refine Go.st (T' := T3) (g' := (mkF m 33 #[.val (.ref a1), .val (.ref a2), .val (.int (ka - kb))] [(.int (ka - kb))])) (fun _ zk => XS.iloadN X3.here hx rfl (hb hby d11_32) rfl zk) ?_
      refine Go.st (T' := T3) (g' := (mkF m 47 #[.val (.ref a1), .val (.ref a2), .val (.int (ka - kb))] [(.int (ka - kb))])) (fun _ zk => XS.goto X3.here hx rfl (pc0 := 33) (pc' := 47) rfl (hb hby d11_33) (by decide) (by decide) zk) ?_
      refine Go.retN X3 hx hlk hret rfl (by simp) (hb hby d11_47) (by decide) (by decide) E3 ?_
      have z_hc13 := t_ne hc13
      have z_hc29 := t_ne hc29
      have k0 := k_0
      have k1 := k_1
      have km := k_m1
      exact ⟨_, rfl, by omega, N3, rfl⟩
theorem own_k (x : Int32) : 1 ≤ (((x &&& 1) + 1).toInt8.toInt32).toInt ∧ (((x &&& 1) + 1).toInt8.toInt32).toInt ≤ 2 := by
  have m := c_mask x 1 1 (by decide) (by decide)
  have a := c_iadd (x &&& 1) 1
  have r := rng32 ((x &&& 1) + 1)
  have b := c_i2b ((x &&& 1) + 1)
  have k1 := k_1
  omega
theorem own_16 (x : Int32) : 0 ≤ (x &&& 65535).toInt ∧ (x &&& 65535).toInt ≤ 65535 := by
  have m := c_mask x 65535 16 (by decide) (by decide)
  omega
theorem own_31 (x : Int32) : 0 ≤ (x &&& 2147483647).toInt ∧ (x &&& 2147483647).toInt ≤ 2147483647 := by
  have m := c_mask x 2147483647 31 (by decide) (by decide)
  omega
theorem w0 {a0 : Array Value} {Z : State} (hw : ∀ d ∈ tables_1, d.before a0 Z = true) : ((Jvm.Cond.constant "com/example/tokenweave/tokenweave/core/EntryNameCompareToPinLaw" (18 : Nat) (65535 : Int32))).before a0 Z = true := hw _ (List.mem_of_getElem? (i := 0) rfl)
theorem w1 {a0 : Array Value} {Z : State} (hw : ∀ d ∈ tables_1, d.before a0 Z = true) : ((Jvm.Cond.constant "com/example/tokenweave/tokenweave/core/EntryNameCompareToPinLaw" (19 : Nat) (2147483647 : Int32))).before a0 Z = true := hw _ (List.mem_of_getElem? (i := 1) rfl)
theorem w2 {a0 : Array Value} {Z : State} (hw : ∀ d ∈ tables_1, d.before a0 Z = true) : ((Jvm.Cond.classLink "com/example/tokenweave/tokenweave/core/EntryNameCompareToPinLaw" (20 : Nat) "com/example/tokenweave/tokenweave/core/EntryName")).before a0 Z = true := hw _ (List.mem_of_getElem? (i := 2) rfl)
theorem w4 {a0 : Array Value} {Z : State} (hw : ∀ d ∈ tables_1, d.before a0 Z = true) : ((Jvm.Cond.initialized "com/example/tokenweave/tokenweave/core/EntryName")).before a0 Z = true := hw _ (List.mem_of_getElem? (i := 4) rfl)
theorem w8 {a0 : Array Value} {Z : State} (hw : ∀ d ∈ tables_1, d.before a0 Z = true) : ((Jvm.Cond.code ({ cls := "com/example/tokenweave/tokenweave/core/EntryNameCompareToPinLaw", name := "hashOf", desc := "(I)Ljava/lang/String;" } : Jvm.MethodName) method_3_code (2 : Nat) (Option.some (Jvm.ClassFile.FieldType.object "java/lang/String")))).before a0 Z = true := hw _ (List.mem_of_getElem? (i := 8) rfl)
theorem pd25 : parseMethodDescriptor "(I)Ljava/lang/String;" = some ⟨[.int], some (.object "java/lang/String")⟩ := by decide +kernel
theorem w5 {a0 : Array Value} {Z : State} (hw : ∀ d ∈ tables_1, d.before a0 Z = true) : ((Jvm.Cond.methodLink "com/example/tokenweave/tokenweave/core/EntryNameCompareToPinLaw" (22 : Nat) ({ cls := "com/example/tokenweave/tokenweave/core/EntryNameCompareToPinLaw", name := "hashOf", desc := "(I)Ljava/lang/String;" } : Jvm.MethodName))).before a0 Z = true := hw _ (List.mem_of_getElem? (i := 5) rfl)
theorem w6 {a0 : Array Value} {Z : State} (hw : ∀ d ∈ tables_1, d.before a0 Z = true) : ((Jvm.Cond.static ({ cls := "com/example/tokenweave/tokenweave/core/EntryNameCompareToPinLaw", name := "hashOf", desc := "(I)Ljava/lang/String;" } : Jvm.MethodName))).before a0 Z = true := hw _ (List.mem_of_getElem? (i := 6) rfl)
theorem w44 {a0 : Array Value} {Z : State} (hw : ∀ d ∈ tables_1, d.before a0 Z = true) : ((Jvm.Cond.code ({ cls := "com/example/tokenweave/tokenweave/core/EntryName", name := "<init>", desc := "(BLjava/lang/String;I)V" } : Jvm.MethodName) prog_6_method_1_code (4 : Nat) (Option.none : Option Jvm.ClassFile.FieldType))).before a0 Z = true := hw _ (List.mem_of_getElem? (i := 44) rfl)
theorem pd26 : parseMethodDescriptor "(BLjava/lang/String;I)V" = some ⟨[.byte, (.object "java/lang/String"), .int], none⟩ := by decide +kernel
theorem w42 {a0 : Array Value} {Z : State} (hw : ∀ d ∈ tables_1, d.before a0 Z = true) : ((Jvm.Cond.methodLink "com/example/tokenweave/tokenweave/core/EntryNameCompareToPinLaw" (26 : Nat) ({ cls := "com/example/tokenweave/tokenweave/core/EntryName", name := "<init>", desc := "(BLjava/lang/String;I)V" } : Jvm.MethodName))).before a0 Z = true := hw _ (List.mem_of_getElem? (i := 42) rfl)
theorem w43 {a0 : Array Value} {Z : State} (hw : ∀ d ∈ tables_1, d.before a0 Z = true) : ((Jvm.Cond.instanceMethod ({ cls := "com/example/tokenweave/tokenweave/core/EntryName", name := "<init>", desc := "(BLjava/lang/String;I)V" } : Jvm.MethodName))).before a0 Z = true := hw _ (List.mem_of_getElem? (i := 43) rfl)
theorem w61 {a0 : Array Value} {Z : State} (hw : ∀ d ∈ tables_1, d.before a0 Z = true) : ((Jvm.Cond.code ({ cls := "com/example/tokenweave/tokenweave/core/EntryName", name := "compareTo", desc := "(Lcom/example/tokenweave/tokenweave/core/EntryName;)I" } : Jvm.MethodName) prog_6_method_7_code (3 : Nat) (Option.some Jvm.ClassFile.FieldType.int))).before a0 Z = true := hw _ (List.mem_of_getElem? (i := 61) rfl)
theorem pd27 : parseMethodDescriptor "(Lcom/example/tokenweave/tokenweave/core/EntryName;)I" = some ⟨[(.object "com/example/tokenweave/tokenweave/core/EntryName")], some .int⟩ := by decide +kernel
theorem w60 {a0 : Array Value} {Z : State} (hw : ∀ d ∈ tables_1, d.before a0 Z = true) : ((Jvm.Cond.selects "com/example/tokenweave/tokenweave/core/EntryName" ({ cls := "com/example/tokenweave/tokenweave/core/EntryName", name := "compareTo", desc := "(Lcom/example/tokenweave/tokenweave/core/EntryName;)I" } : Jvm.MethodName) ({ cls := "com/example/tokenweave/tokenweave/core/EntryName", name := "compareTo", desc := "(Lcom/example/tokenweave/tokenweave/core/EntryName;)I" } : Jvm.MethodName))).before a0 Z = true := hw _ (List.mem_of_getElem? (i := 60) rfl)
theorem w59 {a0 : Array Value} {Z : State} (hw : ∀ d ∈ tables_1, d.before a0 Z = true) : ((Jvm.Cond.instanceMethod ({ cls := "com/example/tokenweave/tokenweave/core/EntryName", name := "compareTo", desc := "(Lcom/example/tokenweave/tokenweave/core/EntryName;)I" } : Jvm.MethodName))).before a0 Z = true := hw _ (List.mem_of_getElem? (i := 59) rfl)
theorem w57 {a0 : Array Value} {Z : State} (hw : ∀ d ∈ tables_1, d.before a0 Z = true) : ((Jvm.Cond.methodLink "com/example/tokenweave/tokenweave/core/EntryNameCompareToPinLaw" (29 : Nat) ({ cls := "com/example/tokenweave/tokenweave/core/EntryName", name := "compareTo", desc := "(Lcom/example/tokenweave/tokenweave/core/EntryName;)I" } : Jvm.MethodName))).before a0 Z = true := hw _ (List.mem_of_getElem? (i := 57) rfl)
theorem w58 {a0 : Array Value} {Z : State} (hw : ∀ d ∈ tables_1, d.before a0 Z = true) : ((Jvm.Cond.declares ({ cls := "com/example/tokenweave/tokenweave/core/EntryName", name := "compareTo", desc := "(Lcom/example/tokenweave/tokenweave/core/EntryName;)I" } : Jvm.MethodName))).before a0 Z = true := hw _ (List.mem_of_getElem? (i := 58) rfl)
theorem w68 {a0 : Array Value} {Z : State} (hw : ∀ d ∈ tables_1, d.before a0 Z = true) : ((Jvm.Cond.code ({ cls := "com/example/tokenweave/tokenweave/core/EntryNameCompareToPinLaw", name := "sign", desc := "(I)I" } : Jvm.MethodName) method_4_code (1 : Nat) (Option.some Jvm.ClassFile.FieldType.int))).before a0 Z = true := hw _ (List.mem_of_getElem? (i := 68) rfl)
theorem pd28 : parseMethodDescriptor "(I)I" = some ⟨[.int], some .int⟩ := by decide +kernel
theorem w66 {a0 : Array Value} {Z : State} (hw : ∀ d ∈ tables_1, d.before a0 Z = true) : ((Jvm.Cond.methodLink "com/example/tokenweave/tokenweave/core/EntryNameCompareToPinLaw" (33 : Nat) ({ cls := "com/example/tokenweave/tokenweave/core/EntryNameCompareToPinLaw", name := "sign", desc := "(I)I" } : Jvm.MethodName))).before a0 Z = true := hw _ (List.mem_of_getElem? (i := 66) rfl)
theorem w67 {a0 : Array Value} {Z : State} (hw : ∀ d ∈ tables_1, d.before a0 Z = true) : ((Jvm.Cond.static ({ cls := "com/example/tokenweave/tokenweave/core/EntryNameCompareToPinLaw", name := "sign", desc := "(I)I" } : Jvm.MethodName))).before a0 Z = true := hw _ (List.mem_of_getElem? (i := 67) rfl)
set_option maxRecDepth 65536 in
set_option maxHeartbeats 40000000 in
theorem rm_law (l : Launch) (Z : State) (a0 : Array Value) (hw : ∀ d ∈ tables_1, d.before a0 Z = true) (ws : List Jvm.Cond) (x0 x1 x2 x3 x4 x5 zc : Int32) (h0 : Heap) (n0 : Nat) (Z0 : n0 ≤ h0.size) (O0 : Old Z n0 h0) (CS : Sta Z Z.heap "java/lang/String" "COMPACT_STRINGS" "Z" (.int zc)) (hz : ¬ zc = 0) :
    Con l Z x code maxLocals ret ws room_1 #[(.int x0), (.int x1), (.int x2), (.int x3), (.int x4), (.int x5)] h0 (fun v h L => v = some (.int 1) ∧ Fr n0 L) := by
  refine Con.enter (plainFor_of_name pn0) ?_
  intro p e s m below meth c s₁ X0 hx hZ hby hml hret hlk hown hnm e0
  have N0 := Fr.nil n0
  refine Go.cast (g' := (mkF m 0 #[.val (.int x0), .val (.int x1), .val (.int x2), .val (.int x3), .val (.int x4), .val (.int x5), .unset, .unset, .unset, .unset, .unset, .unset, .unset, .unset, .unset] [])) (by first | rfl | (simp [entryFrame, mkF, argsToLocals, Value.category, maxLocals]; done)) ?_
  refine Go.st (T' := s₁) (g' := (mkF m 1 #[.val (.int x0), .val (.int x1), .val (.int x2), .val (.int x3), .val (.int x4), .val (.int x5), .unset, .unset, .unset, .unset, .unset, .unset, .unset, .unset, .unset] [(.int x0)])) (fun _ zk => XS.iloadN X0.here hx rfl (hb hby at_0) rfl zk) ?_
  refine Go.st (T' := s₁) (g' := (mkF m 2 #[.val (.int x0), .val (.int x1), .val (.int x2), .val (.int x3), .val (.int x4), .val (.int x5), .unset, .unset, .unset, .unset, .unset, .unset, .unset, .unset, .unset] [(.int (1 : Int32)), (.int x0)])) (fun _ zk => XS.iconst X0.here hx rfl (hb hby at_1) zk) ?_
  refine Go.st (T' := s₁) (g' := (mkF m 3 #[.val (.int x0), .val (.int x1), .val (.int x2), .val (.int x3), .val (.int x4), .val (.int x5), .unset, .unset, .unset, .unset, .unset, .unset, .unset, .unset, .unset] [(.int (x0 &&& (1 : Int32)))])) (fun _ zk => XS.iand X0.here hx rfl (hb hby at_2) rfl zk) ?_
  refine Go.st (T' := s₁) (g' := (mkF m 4 #[.val (.int x0), .val (.int x1), .val (.int x2), .val (.int x3), .val (.int x4), .val (.int x5), .unset, .unset, .unset, .unset, .unset, .unset, .unset, .unset, .unset] [(.int (1 : Int32)), (.int (x0 &&& (1 : Int32)))])) (fun _ zk => XS.iconst X0.here hx rfl (hb hby at_3) zk) ?_
  refine Go.st (T' := s₁) (g' := (mkF m 5 #[.val (.int x0), .val (.int x1), .val (.int x2), .val (.int x3), .val (.int x4), .val (.int x5), .unset, .unset, .unset, .unset, .unset, .unset, .unset, .unset, .unset] [(.int ((x0 &&& (1 : Int32)) + (1 : Int32)))])) (fun _ zk => XS.iadd X0.here hx rfl (hb hby at_4) rfl zk) ?_
  refine Go.st (T' := s₁) (g' := (mkF m 6 #[.val (.int x0), .val (.int x1), .val (.int x2), .val (.int x3), .val (.int x4), .val (.int x5), .unset, .unset, .unset, .unset, .unset, .unset, .unset, .unset, .unset] [(.int (((x0 &&& (1 : Int32)) + (1 : Int32)).toInt8.toInt32))])) (fun _ zk => XS.i2b X0.here hx rfl (hb hby at_5) rfl zk) ?_
  obtain ⟨ka, hka⟩ : ∃ z, z = (((x0 &&& (1 : Int32)) + (1 : Int32)).toInt8.toInt32) := ⟨_, rfl⟩
  rw [← hka]
  have qka := own_k x0
  rw [← hka] at qka
  refine Go.st (T' := s₁) (g' := (mkF m 8 #[.val (.int x0), .val (.int x1), .val (.int x2), .val (.int x3), .val (.int x4), .val (.int x5), .val (.int ka), .unset, .unset, .unset, .unset, .unset, .unset, .unset, .unset] [])) (fun _ zk => XS.istore X0.here hx rfl (hb hby at_6) rfl (l' := #[.val (.int x0), .val (.int x1), .val (.int x2), .val (.int x3), .val (.int x4), .val (.int x5), .val (.int ka), .unset, .unset, .unset, .unset, .unset, .unset, .unset, .unset]) rfl zk) ?_
  refine Go.st (T' := s₁) (g' := (mkF m 9 #[.val (.int x0), .val (.int x1), .val (.int x2), .val (.int x3), .val (.int x4), .val (.int x5), .val (.int ka), .unset, .unset, .unset, .unset, .unset, .unset, .unset, .unset] [(.int x3)])) (fun _ zk => XS.iloadN X0.here hx rfl (hb hby at_8) rfl zk) ?_
  refine Go.st (T' := s₁) (g' := (mkF m 10 #[.val (.int x0), .val (.int x1), .val (.int x2), .val (.int x3), .val (.int x4), .val (.int x5), .val (.int ka), .unset, .unset, .unset, .unset, .unset, .unset, .unset, .unset] [(.int (1 : Int32)), (.int x3)])) (fun _ zk => XS.iconst X0.here hx rfl (hb hby at_9) zk) ?_
  refine Go.st (T' := s₁) (g' := (mkF m 11 #[.val (.int x0), .val (.int x1), .val (.int x2), .val (.int x3), .val (.int x4), .val (.int x5), .val (.int ka), .unset, .unset, .unset, .unset, .unset, .unset, .unset, .unset] [(.int (x3 &&& (1 : Int32)))])) (fun _ zk => XS.iand X0.here hx rfl (hb hby at_10) rfl zk) ?_
  refine Go.st (T' := s₁) (g' := (mkF m 12 #[.val (.int x0), .val (.int x1), .val (.int x2), .val (.int x3), .val (.int x4), .val (.int x5), .val (.int ka), .unset, .unset, .unset, .unset, .unset, .unset, .unset, .unset] [(.int (1 : Int32)), (.int (x3 &&& (1 : Int32)))])) (fun _ zk => XS.iconst X0.here hx rfl (hb hby at_11) zk) ?_
  refine Go.st (T' := s₁) (g' := (mkF m 13 #[.val (.int x0), .val (.int x1), .val (.int x2), .val (.int x3), .val (.int x4), .val (.int x5), .val (.int ka), .unset, .unset, .unset, .unset, .unset, .unset, .unset, .unset] [(.int ((x3 &&& (1 : Int32)) + (1 : Int32)))])) (fun _ zk => XS.iadd X0.here hx rfl (hb hby at_12) rfl zk) ?_
  refine Go.st (T' := s₁) (g' := (mkF m 14 #[.val (.int x0), .val (.int x1), .val (.int x2), .val (.int x3), .val (.int x4), .val (.int x5), .val (.int ka), .unset, .unset, .unset, .unset, .unset, .unset, .unset, .unset] [(.int (((x3 &&& (1 : Int32)) + (1 : Int32)).toInt8.toInt32))])) (fun _ zk => XS.i2b X0.here hx rfl (hb hby at_13) rfl zk) ?_
  obtain ⟨kb, hkb⟩ : ∃ z, z = (((x3 &&& (1 : Int32)) + (1 : Int32)).toInt8.toInt32) := ⟨_, rfl⟩
  rw [← hkb]
  have qkb := own_k x3
  rw [← hkb] at qkb
  refine Go.st (T' := s₁) (g' := (mkF m 16 #[.val (.int x0), .val (.int x1), .val (.int x2), .val (.int x3), .val (.int x4), .val (.int x5), .val (.int ka), .val (.int kb), .unset, .unset, .unset, .unset, .unset, .unset, .unset] [])) (fun _ zk => XS.istore X0.here hx rfl (hb hby at_14) rfl (l' := #[.val (.int x0), .val (.int x1), .val (.int x2), .val (.int x3), .val (.int x4), .val (.int x5), .val (.int ka), .val (.int kb), .unset, .unset, .unset, .unset, .unset, .unset, .unset]) rfl zk) ?_
  refine Go.st (T' := s₁) (g' := (mkF m 17 #[.val (.int x0), .val (.int x1), .val (.int x2), .val (.int x3), .val (.int x4), .val (.int x5), .val (.int ka), .val (.int kb), .unset, .unset, .unset, .unset, .unset, .unset, .unset] [(.int x1)])) (fun _ zk => XS.iloadN X0.here hx rfl (hb hby at_16) rfl zk) ?_
  refine Go.st (T' := s₁) (g' := (mkF m 19 #[.val (.int x0), .val (.int x1), .val (.int x2), .val (.int x3), .val (.int x4), .val (.int x5), .val (.int ka), .val (.int kb), .unset, .unset, .unset, .unset, .unset, .unset, .unset] [(.int (65535 : Int32)), (.int x1)])) (fun _ zk => X0.ldcI hx hown (mvT hZ (w0 hw)) rfl (hb hby at_17) zk) ?_
  refine Go.st (T' := s₁) (g' := (mkF m 20 #[.val (.int x0), .val (.int x1), .val (.int x2), .val (.int x3), .val (.int x4), .val (.int x5), .val (.int ka), .val (.int kb), .unset, .unset, .unset, .unset, .unset, .unset, .unset] [(.int (x1 &&& (65535 : Int32)))])) (fun _ zk => XS.iand X0.here hx rfl (hb hby at_19) rfl zk) ?_
  obtain ⟨ha, hha⟩ : ∃ z, z = (x1 &&& (65535 : Int32)) := ⟨_, rfl⟩
  rw [← hha]
  have qha := own_16 x1
  rw [← hha] at qha
  refine Go.st (T' := s₁) (g' := (mkF m 22 #[.val (.int x0), .val (.int x1), .val (.int x2), .val (.int x3), .val (.int x4), .val (.int x5), .val (.int ka), .val (.int kb), .val (.int ha), .unset, .unset, .unset, .unset, .unset, .unset] [])) (fun _ zk => XS.istore X0.here hx rfl (hb hby at_20) rfl (l' := #[.val (.int x0), .val (.int x1), .val (.int x2), .val (.int x3), .val (.int x4), .val (.int x5), .val (.int ka), .val (.int kb), .val (.int ha), .unset, .unset, .unset, .unset, .unset, .unset]) rfl zk) ?_
  refine Go.st (T' := s₁) (g' := (mkF m 23 #[.val (.int x0), .val (.int x1), .val (.int x2), .val (.int x3), .val (.int x4), .val (.int x5), .val (.int ka), .val (.int kb), .val (.int ha), .unset, .unset, .unset, .unset, .unset, .unset] [(.int x3)])) (fun _ zk => XS.iloadN X0.here hx rfl (hb hby at_22) rfl zk) ?_
  refine Go.st (T' := s₁) (g' := (mkF m 24 #[.val (.int x0), .val (.int x1), .val (.int x2), .val (.int x3), .val (.int x4), .val (.int x5), .val (.int ka), .val (.int kb), .val (.int ha), .unset, .unset, .unset, .unset, .unset, .unset] [(.int (4 : Int32)), (.int x3)])) (fun _ zk => XS.iconst X0.here hx rfl (hb hby at_23) zk) ?_
  refine Go.st (T' := s₁) (g' := (mkF m 25 #[.val (.int x0), .val (.int x1), .val (.int x2), .val (.int x3), .val (.int x4), .val (.int x5), .val (.int ka), .val (.int kb), .val (.int ha), .unset, .unset, .unset, .unset, .unset, .unset] [(.int (x3 &&& (4 : Int32)))])) (fun _ zk => XS.iand X0.here hx rfl (hb hby at_24) rfl zk) ?_
  obtain ⟨j1, hj1, dj1⟩ : ∃ j1 : Int32, (0 ≤ j1.toInt ∧ j1.toInt ≤ 65535) ∧ ∀ tt, Steps p.tables e below (s₁.setTop (mkF m 38 #[.val (.int x0), .val (.int x1), .val (.int x2), .val (.int x3), .val (.int x4), .val (.int x5), .val (.int ka), .val (.int kb), .val (.int ha), .unset, .unset, .unset, .unset, .unset, .unset] [(.int j1)])) tt → Steps p.tables e below (s₁.setTop (mkF m 25 #[.val (.int x0), .val (.int x1), .val (.int x2), .val (.int x3), .val (.int x4), .val (.int x5), .val (.int ka), .val (.int kb), .val (.int ha), .unset, .unset, .unset, .unset, .unset, .unset] [(.int (x3 &&& (4 : Int32)))])) tt := by
    by_cases hc25 : (x3 &&& (4 : Int32)) = (0 : Int32)
    · refine ⟨(x4 &&& (65535 : Int32)), (own_16 _), fun tt zk => ?_⟩
      suffices zk : Steps p.tables e below (s₁.setTop (mkF m 33 #[.val (.int x0), .val (.int x1), .val (.int x2), .val (.int x3), .val (.int x4), .val (.int x5), .val (.int ka), .val (.int kb), .val (.int ha), .unset, .unset, .unset, .unset, .unset, .unset] [])) tt from XS.ifYes X0.here hx rfl (pc0 := 25) (pc' := 33) rfl (hb hby at_25) rfl ((if0 _ _).trans (teq hc25).1) (by decide) (by decide) zk
      suffices zk : Steps p.tables e below (s₁.setTop (mkF m 35 #[.val (.int x0), .val (.int x1), .val (.int x2), .val (.int x3), .val (.int x4), .val (.int x5), .val (.int ka), .val (.int kb), .val (.int ha), .unset, .unset, .unset, .unset, .unset, .unset] [(.int x4)])) tt from XS.iload X0.here hx rfl (hb hby at_33) rfl zk
      suffices zk : Steps p.tables e below (s₁.setTop (mkF m 37 #[.val (.int x0), .val (.int x1), .val (.int x2), .val (.int x3), .val (.int x4), .val (.int x5), .val (.int ka), .val (.int kb), .val (.int ha), .unset, .unset, .unset, .unset, .unset, .unset] [(.int (65535 : Int32)), (.int x4)])) tt from X0.ldcI hx hown (mvT hZ (w0 hw)) rfl (hb hby at_35) zk
      suffices zk : Steps p.tables e below (s₁.setTop (mkF m 38 #[.val (.int x0), .val (.int x1), .val (.int x2), .val (.int x3), .val (.int x4), .val (.int x5), .val (.int ka), .val (.int kb), .val (.int ha), .unset, .unset, .unset, .unset, .unset, .unset] [(.int (x4 &&& (65535 : Int32)))])) tt from XS.iand X0.here hx rfl (hb hby at_37) rfl zk
      exact zk
    · refine ⟨ha, qha, fun tt zk => ?_⟩
      suffices zk : Steps p.tables e below (s₁.setTop (mkF m 28 #[.val (.int x0), .val (.int x1), .val (.int x2), .val (.int x3), .val (.int x4), .val (.int x5), .val (.int ka), .val (.int kb), .val (.int ha), .unset, .unset, .unset, .unset, .unset, .unset] [])) tt from XS.ifNo X0.here hx rfl (hb hby at_25) rfl ((if0 _ _).trans (feq hc25).1) zk
      suffices zk : Steps p.tables e below (s₁.setTop (mkF m 30 #[.val (.int x0), .val (.int x1), .val (.int x2), .val (.int x3), .val (.int x4), .val (.int x5), .val (.int ka), .val (.int kb), .val (.int ha), .unset, .unset, .unset, .unset, .unset, .unset] [(.int ha)])) tt from XS.iload X0.here hx rfl (hb hby at_28) rfl zk
      suffices zk : Steps p.tables e below (s₁.setTop (mkF m 38 #[.val (.int x0), .val (.int x1), .val (.int x2), .val (.int x3), .val (.int x4), .val (.int x5), .val (.int ka), .val (.int kb), .val (.int ha), .unset, .unset, .unset, .unset, .unset, .unset] [(.int ha)])) tt from XS.goto X0.here hx rfl (pc0 := 30) (pc' := 38) rfl (hb hby at_30) (by decide) (by decide) zk
      exact zk
  refine Go.st dj1 ?_
  have qj1 := hj1
  refine Go.st (T' := s₁) (g' := (mkF m 40 #[.val (.int x0), .val (.int x1), .val (.int x2), .val (.int x3), .val (.int x4), .val (.int x5), .val (.int ka), .val (.int kb), .val (.int ha), .val (.int j1), .unset, .unset, .unset, .unset, .unset] [])) (fun _ zk => XS.istore X0.here hx rfl (hb hby at_38) rfl (l' := #[.val (.int x0), .val (.int x1), .val (.int x2), .val (.int x3), .val (.int x4), .val (.int x5), .val (.int ka), .val (.int kb), .val (.int ha), .val (.int j1), .unset, .unset, .unset, .unset, .unset]) rfl zk) ?_
  refine Go.st (T' := s₁) (g' := (mkF m 41 #[.val (.int x0), .val (.int x1), .val (.int x2), .val (.int x3), .val (.int x4), .val (.int x5), .val (.int ka), .val (.int kb), .val (.int ha), .val (.int j1), .unset, .unset, .unset, .unset, .unset] [(.int x2)])) (fun _ zk => XS.iloadN X0.here hx rfl (hb hby at_40) rfl zk) ?_
  refine Go.st (T' := s₁) (g' := (mkF m 43 #[.val (.int x0), .val (.int x1), .val (.int x2), .val (.int x3), .val (.int x4), .val (.int x5), .val (.int ka), .val (.int kb), .val (.int ha), .val (.int j1), .unset, .unset, .unset, .unset, .unset] [(.int (2147483647 : Int32)), (.int x2)])) (fun _ zk => X0.ldcI hx hown (mvT hZ (w1 hw)) rfl (hb hby at_41) zk) ?_
  refine Go.st (T' := s₁) (g' := (mkF m 44 #[.val (.int x0), .val (.int x1), .val (.int x2), .val (.int x3), .val (.int x4), .val (.int x5), .val (.int ka), .val (.int kb), .val (.int ha), .val (.int j1), .unset, .unset, .unset, .unset, .unset] [(.int (x2 &&& (2147483647 : Int32)))])) (fun _ zk => XS.iand X0.here hx rfl (hb hby at_43) rfl zk) ?_
  obtain ⟨va, hva⟩ : ∃ z, z = (x2 &&& (2147483647 : Int32)) := ⟨_, rfl⟩
  rw [← hva]
  have qva := own_31 x2
  rw [← hva] at qva
  refine Go.st (T' := s₁) (g' := (mkF m 46 #[.val (.int x0), .val (.int x1), .val (.int x2), .val (.int x3), .val (.int x4), .val (.int x5), .val (.int ka), .val (.int kb), .val (.int ha), .val (.int j1), .val (.int va), .unset, .unset, .unset, .unset] [])) (fun _ zk => XS.istore X0.here hx rfl (hb hby at_44) rfl (l' := #[.val (.int x0), .val (.int x1), .val (.int x2), .val (.int x3), .val (.int x4), .val (.int x5), .val (.int ka), .val (.int kb), .val (.int ha), .val (.int j1), .val (.int va), .unset, .unset, .unset, .unset]) rfl zk) ?_
  refine Go.st (T' := s₁) (g' := (mkF m 47 #[.val (.int x0), .val (.int x1), .val (.int x2), .val (.int x3), .val (.int x4), .val (.int x5), .val (.int ka), .val (.int kb), .val (.int ha), .val (.int j1), .val (.int va), .unset, .unset, .unset, .unset] [(.int x3)])) (fun _ zk => XS.iloadN X0.here hx rfl (hb hby at_46) rfl zk) ?_
  refine Go.st (T' := s₁) (g' := (mkF m 48 #[.val (.int x0), .val (.int x1), .val (.int x2), .val (.int x3), .val (.int x4), .val (.int x5), .val (.int ka), .val (.int kb), .val (.int ha), .val (.int j1), .val (.int va), .unset, .unset, .unset, .unset] [(.int (2 : Int32)), (.int x3)])) (fun _ zk => XS.iconst X0.here hx rfl (hb hby at_47) zk) ?_
  refine Go.st (T' := s₁) (g' := (mkF m 49 #[.val (.int x0), .val (.int x1), .val (.int x2), .val (.int x3), .val (.int x4), .val (.int x5), .val (.int ka), .val (.int kb), .val (.int ha), .val (.int j1), .val (.int va), .unset, .unset, .unset, .unset] [(.int (x3 &&& (2 : Int32)))])) (fun _ zk => XS.iand X0.here hx rfl (hb hby at_48) rfl zk) ?_
  obtain ⟨j2, hj2, dj2⟩ : ∃ j2 : Int32, (0 ≤ j2.toInt ∧ j2.toInt ≤ 2147483647) ∧ ∀ tt, Steps p.tables e below (s₁.setTop (mkF m 62 #[.val (.int x0), .val (.int x1), .val (.int x2), .val (.int x3), .val (.int x4), .val (.int x5), .val (.int ka), .val (.int kb), .val (.int ha), .val (.int j1), .val (.int va), .unset, .unset, .unset, .unset] [(.int j2)])) tt → Steps p.tables e below (s₁.setTop (mkF m 49 #[.val (.int x0), .val (.int x1), .val (.int x2), .val (.int x3), .val (.int x4), .val (.int x5), .val (.int ka), .val (.int kb), .val (.int ha), .val (.int j1), .val (.int va), .unset, .unset, .unset, .unset] [(.int (x3 &&& (2 : Int32)))])) tt := by
    by_cases hc49 : (x3 &&& (2 : Int32)) = (0 : Int32)
    · refine ⟨(x5 &&& (2147483647 : Int32)), (own_31 _), fun tt zk => ?_⟩
      suffices zk : Steps p.tables e below (s₁.setTop (mkF m 57 #[.val (.int x0), .val (.int x1), .val (.int x2), .val (.int x3), .val (.int x4), .val (.int x5), .val (.int ka), .val (.int kb), .val (.int ha), .val (.int j1), .val (.int va), .unset, .unset, .unset, .unset] [])) tt from XS.ifYes X0.here hx rfl (pc0 := 49) (pc' := 57) rfl (hb hby at_49) rfl ((if0 _ _).trans (teq hc49).1) (by decide) (by decide) zk
      suffices zk : Steps p.tables e below (s₁.setTop (mkF m 59 #[.val (.int x0), .val (.int x1), .val (.int x2), .val (.int x3), .val (.int x4), .val (.int x5), .val (.int ka), .val (.int kb), .val (.int ha), .val (.int j1), .val (.int va), .unset, .unset, .unset, .unset] [(.int x5)])) tt from XS.iload X0.here hx rfl (hb hby at_57) rfl zk
      suffices zk : Steps p.tables e below (s₁.setTop (mkF m 61 #[.val (.int x0), .val (.int x1), .val (.int x2), .val (.int x3), .val (.int x4), .val (.int x5), .val (.int ka), .val (.int kb), .val (.int ha), .val (.int j1), .val (.int va), .unset, .unset, .unset, .unset] [(.int (2147483647 : Int32)), (.int x5)])) tt from X0.ldcI hx hown (mvT hZ (w1 hw)) rfl (hb hby at_59) zk
      suffices zk : Steps p.tables e below (s₁.setTop (mkF m 62 #[.val (.int x0), .val (.int x1), .val (.int x2), .val (.int x3), .val (.int x4), .val (.int x5), .val (.int ka), .val (.int kb), .val (.int ha), .val (.int j1), .val (.int va), .unset, .unset, .unset, .unset] [(.int (x5 &&& (2147483647 : Int32)))])) tt from XS.iand X0.here hx rfl (hb hby at_61) rfl zk
      exact zk
    · refine ⟨va, qva, fun tt zk => ?_⟩
      suffices zk : Steps p.tables e below (s₁.setTop (mkF m 52 #[.val (.int x0), .val (.int x1), .val (.int x2), .val (.int x3), .val (.int x4), .val (.int x5), .val (.int ka), .val (.int kb), .val (.int ha), .val (.int j1), .val (.int va), .unset, .unset, .unset, .unset] [])) tt from XS.ifNo X0.here hx rfl (hb hby at_49) rfl ((if0 _ _).trans (feq hc49).1) zk
      suffices zk : Steps p.tables e below (s₁.setTop (mkF m 54 #[.val (.int x0), .val (.int x1), .val (.int x2), .val (.int x3), .val (.int x4), .val (.int x5), .val (.int ka), .val (.int kb), .val (.int ha), .val (.int j1), .val (.int va), .unset, .unset, .unset, .unset] [(.int va)])) tt from XS.iload X0.here hx rfl (hb hby at_52) rfl zk
      suffices zk : Steps p.tables e below (s₁.setTop (mkF m 62 #[.val (.int x0), .val (.int x1), .val (.int x2), .val (.int x3), .val (.int x4), .val (.int x5), .val (.int ka), .val (.int kb), .val (.int ha), .val (.int j1), .val (.int va), .unset, .unset, .unset, .unset] [(.int va)])) tt from XS.goto X0.here hx rfl (pc0 := 54) (pc' := 62) rfl (hb hby at_54) (by decide) (by decide) zk
      exact zk
  refine Go.st dj2 ?_
  have qj2 := hj2
  refine Go.st (T' := s₁) (g' := (mkF m 64 #[.val (.int x0), .val (.int x1), .val (.int x2), .val (.int x3), .val (.int x4), .val (.int x5), .val (.int ka), .val (.int kb), .val (.int ha), .val (.int j1), .val (.int va), .val (.int j2), .unset, .unset, .unset] [])) (fun _ zk => XS.istore X0.here hx rfl (hb hby at_62) rfl (l' := #[.val (.int x0), .val (.int x1), .val (.int x2), .val (.int x3), .val (.int x4), .val (.int x5), .val (.int ka), .val (.int kb), .val (.int ha), .val (.int j1), .val (.int va), .val (.int j2), .unset, .unset, .unset]) rfl zk) ?_
  obtain ⟨T3, h3, X3, e3, E3, A3, D3, -, st3⟩ := newO X0 hx hZ hown (w2 hw) (w3 hw) (w4 hw) e0 (g := (mkF m 64 #[.val (.int x0), .val (.int x1), .val (.int x2), .val (.int x3), .val (.int x4), .val (.int x5), .val (.int ka), .val (.int kb), .val (.int ha), .val (.int j1), .val (.int va), .val (.int j2), .unset, .unset, .unset] [])) rfl (hb hby at_64) (by decide) (by decide)
  obtain ⟨b3, g3⟩ : ∃ z, z = h0.size := ⟨_, rfl⟩
  rw [← g3] at A3 D3 st3
  have F3_kind : Fld Z h3 b3 "com/example/tokenweave/tokenweave/core/EntryName" "kind" "B" (.int (0 : Int32)) := D3 (Or.inr (w52 hw)) (ty := .byte) (by decide)
  have F3_hash : Fld Z h3 b3 "com/example/tokenweave/tokenweave/core/EntryName" "hash" "Ljava/lang/String;" .null := D3 (Or.inr (w54 hw)) (ty := (.object "java/lang/String")) (by decide)
  have F3_version : Fld Z h3 b3 "com/example/tokenweave/tokenweave/core/EntryName" "version" "I" (.int (0 : Int32)) := D3 (Or.inr (w56 hw)) (ty := .int) (by decide)
  refine Go.st (T' := T3) (g' := (mkF m 67 #[.val (.int x0), .val (.int x1), .val (.int x2), .val (.int x3), .val (.int x4), .val (.int x5), .val (.int ka), .val (.int kb), .val (.int ha), .val (.int j1), .val (.int va), .val (.int j2), .unset, .unset, .unset] [(.ref b3)])) (fun _ zk => st3 _ zk) ?_
  refine Go.st (T' := T3) (g' := (mkF m 68 #[.val (.int x0), .val (.int x1), .val (.int x2), .val (.int x3), .val (.int x4), .val (.int x5), .val (.int ka), .val (.int kb), .val (.int ha), .val (.int j1), .val (.int va), .val (.int j2), .unset, .unset, .unset] [(.ref b3), (.ref b3)])) (fun _ zk => XS.dup X3.here hx rfl (hb hby at_67) rfl rfl zk) ?_
  refine Go.st (T' := T3) (g' := (mkF m 70 #[.val (.int x0), .val (.int x1), .val (.int x2), .val (.int x3), .val (.int x4), .val (.int x5), .val (.int ka), .val (.int kb), .val (.int ha), .val (.int j1), .val (.int va), .val (.int j2), .unset, .unset, .unset] [(.int ka), (.ref b3), (.ref b3)])) (fun _ zk => XS.iload X3.here hx rfl (hb hby at_68) rfl zk) ?_
  refine Go.st (T' := T3) (g' := (mkF m 72 #[.val (.int x0), .val (.int x1), .val (.int x2), .val (.int x3), .val (.int x4), .val (.int x5), .val (.int ka), .val (.int kb), .val (.int ha), .val (.int j1), .val (.int va), .val (.int j2), .unset, .unset, .unset] [(.int ha), (.int ka), (.ref b3), (.ref b3)])) (fun _ zk => XS.iload X3.here hx rfl (hb hby at_70) rfl zk) ?_
  have xt5 : Ext h0 h3 := E3
  have f6 := O0.ext xt5
  refine Go.callSt (y := (⟨"com/example/tokenweave/tokenweave/core/EntryNameCompareToPinLaw", "hashOf", "(I)Ljava/lang/String;"⟩ : MethodName)) X3 hx hZ hown e3 (w5 hw) (w6 hw) (w7 hw) (w8 hw) (by decide) (argsL := [(.int ha)]) (rest := [(.int ka), (.ref b3), (.ref b3)]) (W := 3) (rm_hashOf l Z a0 hw [] ha zc h3 n0 (Nat.le_trans Z0 E3.1) f6 CS hz qha) rfl (lenOf pd25 rfl) rfl (by rw [hml]; rfl) rfl (by show 2 * 0 + _ ≤ _; exact Nat.le_of_eq rfl) (by decide) (by decide) (by decide) (by decide) (hb hby at_72) ?_
  intro v4 T4 h4 L4 X4 e4 q4
  obtain ⟨a4, c4_0, c4_1, c4_2, c4_3, hv4, Nf4, E4, S4, hX4⟩ := q4
  subst hv4
  have N4 := Fr.app N0 Nf4
  show Go p.tables e below _ T4 (mkF m 75 #[.val (.int x0), .val (.int x1), .val (.int x2), .val (.int x3), .val (.int x4), .val (.int x5), .val (.int ka), .val (.int kb), .val (.int ha), .val (.int j1), .val (.int va), .val (.int j2), .unset, .unset, .unset] [(.ref a4), (.int ka), (.ref b3), (.ref b3)])
  refine Go.st (T' := T4) (g' := (mkF m 77 #[.val (.int x0), .val (.int x1), .val (.int x2), .val (.int x3), .val (.int x4), .val (.int x5), .val (.int ka), .val (.int kb), .val (.int ha), .val (.int j1), .val (.int va), .val (.int j2), .unset, .unset, .unset] [(.int va), (.ref a4), (.int ka), (.ref b3), (.ref b3)])) (fun _ zk => XS.iload X4.here hx rfl (hb hby at_75) rfl zk) ?_
  have xt7 : Ext h3 h4 := E4
  have f8 := A3.ext xt7
  have f9 := F3_kind.ext xt7
  have f10 := F3_hash.ext xt7
  have f11 := F3_version.ext xt7
  refine Go.callSp (y := (⟨"com/example/tokenweave/tokenweave/core/EntryName", "<init>", "(BLjava/lang/String;I)V"⟩ : MethodName)) (a := b3) X4 hx hZ hown e4 rfl (w42 hw) (w43 hw) (w4 hw) (w44 hw) (by decide) (argsL := [(.int ka), (.ref a4), (.int va)]) (rest := [(.ref b3)]) (W := 1) (rm_enInit l Z a0 hw [] b3 ka a4 va h4 n0 (Nat.le_trans Z0 (Nat.le_trans E3.1 E4.1)) f8 (Nat.le_trans Z0 (Nat.le_trans (Nat.le_refl _) (Nat.le_of_eq g3.symm))) f9 f10 f11 ⟨by omega, by omega⟩) rfl (lenOf pd26 rfl) rfl (by rw [hml]; rfl) rfl (by show 2 * 0 + _ ≤ _; exact Nat.le_of_eq rfl) (by decide) (by decide) (by decide) (by decide) (hb hby at_77) ?_
  intro v12 T12 h12 L12 X12 e12 q12
  obtain ⟨hv12, Nf12, K12, G12_0, G12_1, G12_2⟩ := q12
  subst hv12
  have N12 := Fr.app N4 Nf12
  show Go p.tables e below _ T12 (mkF m 80 #[.val (.int x0), .val (.int x1), .val (.int x2), .val (.int x3), .val (.int x4), .val (.int x5), .val (.int ka), .val (.int kb), .val (.int ha), .val (.int j1), .val (.int va), .val (.int j2), .unset, .unset, .unset] [(.ref b3)])
  refine Go.st (T' := T12) (g' := (mkF m 82 #[.val (.int x0), .val (.int x1), .val (.int x2), .val (.int x3), .val (.int x4), .val (.int x5), .val (.int ka), .val (.int kb), .val (.int ha), .val (.int j1), .val (.int va), .val (.int j2), .val (.ref b3), .unset, .unset] [])) (fun _ zk => XS.astore X12.here hx rfl (hb hby at_80) rfl rfl (l' := #[.val (.int x0), .val (.int x1), .val (.int x2), .val (.int x3), .val (.int x4), .val (.int x5), .val (.int ka), .val (.int kb), .val (.int ha), .val (.int j1), .val (.int va), .val (.int j2), .val (.ref b3), .unset, .unset]) rfl zk) ?_
  obtain ⟨T13, h13, X13, e13, E13, A13, D13, -, st13⟩ := newO X12 hx hZ hown (w2 hw) (w3 hw) (w4 hw) e12 (g := (mkF m 82 #[.val (.int x0), .val (.int x1), .val (.int x2), .val (.int x3), .val (.int x4), .val (.int x5), .val (.int ka), .val (.int kb), .val (.int ha), .val (.int j1), .val (.int va), .val (.int j2), .val (.ref b3), .unset, .unset] [])) rfl (hb hby at_82) (by decide) (by decide)
  obtain ⟨b13, g13⟩ : ∃ z, z = h12.size := ⟨_, rfl⟩
  rw [← g13] at A13 D13 st13
  have F13_kind : Fld Z h13 b13 "com/example/tokenweave/tokenweave/core/EntryName" "kind" "B" (.int (0 : Int32)) := D13 (Or.inr (w52 hw)) (ty := .byte) (by decide)
  have F13_hash : Fld Z h13 b13 "com/example/tokenweave/tokenweave/core/EntryName" "hash" "Ljava/lang/String;" .null := D13 (Or.inr (w54 hw)) (ty := (.object "java/lang/String")) (by decide)
  have F13_version : Fld Z h13 b13 "com/example/tokenweave/tokenweave/core/EntryName" "version" "I" (.int (0 : Int32)) := D13 (Or.inr (w56 hw)) (ty := .int) (by decide)
  refine Go.st (T' := T13) (g' := (mkF m 85 #[.val (.int x0), .val (.int x1), .val (.int x2), .val (.int x3), .val (.int x4), .val (.int x5), .val (.int ka), .val (.int kb), .val (.int ha), .val (.int j1), .val (.int va), .val (.int j2), .val (.ref b3), .unset, .unset] [(.ref b13)])) (fun _ zk => st13 _ zk) ?_
  refine Go.st (T' := T13) (g' := (mkF m 86 #[.val (.int x0), .val (.int x1), .val (.int x2), .val (.int x3), .val (.int x4), .val (.int x5), .val (.int ka), .val (.int kb), .val (.int ha), .val (.int j1), .val (.int va), .val (.int j2), .val (.ref b3), .unset, .unset] [(.ref b13), (.ref b13)])) (fun _ zk => XS.dup X13.here hx rfl (hb hby at_85) rfl rfl zk) ?_
  refine Go.st (T' := T13) (g' := (mkF m 88 #[.val (.int x0), .val (.int x1), .val (.int x2), .val (.int x3), .val (.int x4), .val (.int x5), .val (.int ka), .val (.int kb), .val (.int ha), .val (.int j1), .val (.int va), .val (.int j2), .val (.ref b3), .unset, .unset] [(.int kb), (.ref b13), (.ref b13)])) (fun _ zk => XS.iload X13.here hx rfl (hb hby at_86) rfl zk) ?_
  refine Go.st (T' := T13) (g' := (mkF m 90 #[.val (.int x0), .val (.int x1), .val (.int x2), .val (.int x3), .val (.int x4), .val (.int x5), .val (.int ka), .val (.int kb), .val (.int ha), .val (.int j1), .val (.int va), .val (.int j2), .val (.ref b3), .unset, .unset] [(.int j1), (.int kb), (.ref b13), (.ref b13)])) (fun _ zk => XS.iload X13.here hx rfl (hb hby at_88) rfl zk) ?_
  have f15 := (((f6.ext E4).keep K12 (allS (Nat.le_trans Z0 (Nat.le_trans (Nat.le_refl _) (Nat.le_of_eq g3.symm))) all0)).ext E13)
  refine Go.callSt (y := (⟨"com/example/tokenweave/tokenweave/core/EntryNameCompareToPinLaw", "hashOf", "(I)Ljava/lang/String;"⟩ : MethodName)) X13 hx hZ hown e13 (w5 hw) (w6 hw) (w7 hw) (w8 hw) (by decide) (argsL := [(.int j1)]) (rest := [(.int kb), (.ref b13), (.ref b13)]) (W := 3) (rm_hashOf l Z a0 hw [] j1 zc h13 n0 (Nat.le_trans Z0 (Nat.le_trans (Nat.le_trans (Nat.le_trans E3.1 E4.1) K12.1) E13.1)) f15 CS hz qj1) rfl (lenOf pd25 rfl) rfl (by rw [hml]; rfl) rfl (by show 2 * 0 + _ ≤ _; exact Nat.le_of_eq rfl) (by decide) (by decide) (by decide) (by decide) (hb hby at_90) ?_
  intro v14 T14 h14 L14 X14 e14 q14
  obtain ⟨a14, c14_0, c14_1, c14_2, c14_3, hv14, Nf14, E14, S14, hX14⟩ := q14
  subst hv14
  have N14 := Fr.app N12 Nf14
  show Go p.tables e below _ T14 (mkF m 93 #[.val (.int x0), .val (.int x1), .val (.int x2), .val (.int x3), .val (.int x4), .val (.int x5), .val (.int ka), .val (.int kb), .val (.int ha), .val (.int j1), .val (.int va), .val (.int j2), .val (.ref b3), .unset, .unset] [(.ref a14), (.int kb), (.ref b13), (.ref b13)])
  refine Go.st (T' := T14) (g' := (mkF m 95 #[.val (.int x0), .val (.int x1), .val (.int x2), .val (.int x3), .val (.int x4), .val (.int x5), .val (.int ka), .val (.int kb), .val (.int ha), .val (.int j1), .val (.int va), .val (.int j2), .val (.ref b3), .unset, .unset] [(.int j2), (.ref a14), (.int kb), (.ref b13), (.ref b13)])) (fun _ zk => XS.iload X14.here hx rfl (hb hby at_93) rfl zk) ?_
  have xt16 : Ext h13 h14 := E14
  have f17 := A13.ext xt16
  have f18 := F13_kind.ext xt16
  have f19 := F13_hash.ext xt16
  have f20 := F13_version.ext xt16
  refine Go.callSp (y := (⟨"com/example/tokenweave/tokenweave/core/EntryName", "<init>", "(BLjava/lang/String;I)V"⟩ : MethodName)) (a := b13) X14 hx hZ hown e14 rfl (w42 hw) (w43 hw) (w4 hw) (w44 hw) (by decide) (argsL := [(.int kb), (.ref a14), (.int j2)]) (rest := [(.ref b13)]) (W := 1) (rm_enInit l Z a0 hw [] b13 kb a14 j2 h14 n0 (Nat.le_trans Z0 (Nat.le_trans (Nat.le_trans (Nat.le_trans (Nat.le_trans E3.1 E4.1) K12.1) E13.1) E14.1)) f17 (Nat.le_trans Z0 (Nat.le_trans (Nat.le_trans (Nat.le_trans E3.1 E4.1) K12.1) (Nat.le_of_eq g13.symm))) f18 f19 f20 ⟨by omega, by omega⟩) rfl (lenOf pd26 rfl) rfl (by rw [hml]; rfl) rfl (by show 2 * 0 + _ ≤ _; exact Nat.le_of_eq rfl) (by decide) (by decide) (by decide) (by decide) (hb hby at_95) ?_
  intro v21 T21 h21 L21 X21 e21 q21
  obtain ⟨hv21, Nf21, K21, G21_0, G21_1, G21_2⟩ := q21
  subst hv21
  have N21 := Fr.app N14 Nf21
  show Go p.tables e below _ T21 (mkF m 98 #[.val (.int x0), .val (.int x1), .val (.int x2), .val (.int x3), .val (.int x4), .val (.int x5), .val (.int ka), .val (.int kb), .val (.int ha), .val (.int j1), .val (.int va), .val (.int j2), .val (.ref b3), .unset, .unset] [(.ref b13)])
  refine Go.st (T' := T21) (g' := (mkF m 100 #[.val (.int x0), .val (.int x1), .val (.int x2), .val (.int x3), .val (.int x4), .val (.int x5), .val (.int ka), .val (.int kb), .val (.int ha), .val (.int j1), .val (.int va), .val (.int j2), .val (.ref b3), .val (.ref b13), .unset] [])) (fun _ zk => XS.astore X21.here hx rfl (hb hby at_98) rfl rfl (l' := #[.val (.int x0), .val (.int x1), .val (.int x2), .val (.int x3), .val (.int x4), .val (.int x5), .val (.int ka), .val (.int kb), .val (.int ha), .val (.int j1), .val (.int va), .val (.int j2), .val (.ref b3), .val (.ref b13), .unset]) rfl zk) ?_
  obtain ⟨j22, hj22, dj22⟩ : ∃ j22 : Int32, ((j22.toInt = -1 ∧ (ka.toInt < kb.toInt ∨ (ka.toInt = kb.toInt ∧ (ha.toInt < j1.toInt ∨ (ha.toInt = j1.toInt ∧ va.toInt < j2.toInt))))) ∨ (j22.toInt = 1 ∧ (kb.toInt < ka.toInt ∨ (kb.toInt = ka.toInt ∧ (j1.toInt < ha.toInt ∨ (j1.toInt = ha.toInt ∧ j2.toInt < va.toInt))))) ∨ (j22.toInt = 0 ∧ (ka.toInt = kb.toInt ∧ ha.toInt = j1.toInt ∧ va.toInt = j2.toInt))) ∧ ∀ tt, Steps p.tables e below (T21.setTop (mkF m 175 #[.val (.int x0), .val (.int x1), .val (.int x2), .val (.int x3), .val (.int x4), .val (.int x5), .val (.int ka), .val (.int kb), .val (.int ha), .val (.int j1), .val (.int va), .val (.int j2), .val (.ref b3), .val (.ref b13), .val (.int j22)] [])) tt → Steps p.tables e below (T21.setTop (mkF m 100 #[.val (.int x0), .val (.int x1), .val (.int x2), .val (.int x3), .val (.int x4), .val (.int x5), .val (.int ka), .val (.int kb), .val (.int ha), .val (.int j1), .val (.int va), .val (.int j2), .val (.ref b3), .val (.ref b13), .unset] [])) tt := by
    by_cases hc104 : ka = kb
    · by_cases hc128 : ha = j1
      · by_cases hc152 : va = j2
        · refine ⟨(0 : Int32), (by have z_hc104 := t_eq hc104; have z_hc128 := t_eq hc128; have z_hc152 := t_eq hc152; have k0 := k_0; have k1 := k_1; have km := k_m1; omega), fun tt zk => ?_⟩
          suffices zk : Steps p.tables e below (T21.setTop (mkF m 102 #[.val (.int x0), .val (.int x1), .val (.int x2), .val (.int x3), .val (.int x4), .val (.int x5), .val (.int ka), .val (.int kb), .val (.int ha), .val (.int j1), .val (.int va), .val (.int j2), .val (.ref b3), .val (.ref b13), .unset] [(.int ka)])) tt from XS.iload X21.here hx rfl (hb hby at_100) rfl zk
          suffices zk : Steps p.tables e below (T21.setTop (mkF m 104 #[.val (.int x0), .val (.int x1), .val (.int x2), .val (.int x3), .val (.int x4), .val (.int x5), .val (.int ka), .val (.int kb), .val (.int ha), .val (.int j1), .val (.int va), .val (.int j2), .val (.ref b3), .val (.ref b13), .unset] [(.int kb), (.int ka)])) tt from XS.iload X21.here hx rfl (hb hby at_102) rfl zk
          suffices zk : Steps p.tables e below (T21.setTop (mkF m 124 #[.val (.int x0), .val (.int x1), .val (.int x2), .val (.int x3), .val (.int x4), .val (.int x5), .val (.int ka), .val (.int kb), .val (.int ha), .val (.int j1), .val (.int va), .val (.int j2), .val (.ref b3), .val (.ref b13), .unset] [])) tt from XS.icmpYes X21.here hx rfl (pc0 := 104) (pc' := 124) rfl (hb hby at_104) rfl (teq hc104).1 (by decide) (by decide) zk
          suffices zk : Steps p.tables e below (T21.setTop (mkF m 126 #[.val (.int x0), .val (.int x1), .val (.int x2), .val (.int x3), .val (.int x4), .val (.int x5), .val (.int ka), .val (.int kb), .val (.int ha), .val (.int j1), .val (.int va), .val (.int j2), .val (.ref b3), .val (.ref b13), .unset] [(.int ha)])) tt from XS.iload X21.here hx rfl (hb hby at_124) rfl zk
          suffices zk : Steps p.tables e below (T21.setTop (mkF m 128 #[.val (.int x0), .val (.int x1), .val (.int x2), .val (.int x3), .val (.int x4), .val (.int x5), .val (.int ka), .val (.int kb), .val (.int ha), .val (.int j1), .val (.int va), .val (.int j2), .val (.ref b3), .val (.ref b13), .unset] [(.int j1), (.int ha)])) tt from XS.iload X21.here hx rfl (hb hby at_126) rfl zk
          suffices zk : Steps p.tables e below (T21.setTop (mkF m 148 #[.val (.int x0), .val (.int x1), .val (.int x2), .val (.int x3), .val (.int x4), .val (.int x5), .val (.int ka), .val (.int kb), .val (.int ha), .val (.int j1), .val (.int va), .val (.int j2), .val (.ref b3), .val (.ref b13), .unset] [])) tt from XS.icmpYes X21.here hx rfl (pc0 := 128) (pc' := 148) rfl (hb hby at_128) rfl (teq hc128).1 (by decide) (by decide) zk
          suffices zk : Steps p.tables e below (T21.setTop (mkF m 150 #[.val (.int x0), .val (.int x1), .val (.int x2), .val (.int x3), .val (.int x4), .val (.int x5), .val (.int ka), .val (.int kb), .val (.int ha), .val (.int j1), .val (.int va), .val (.int j2), .val (.ref b3), .val (.ref b13), .unset] [(.int va)])) tt from XS.iload X21.here hx rfl (hb hby at_148) rfl zk
          suffices zk : Steps p.tables e below (T21.setTop (mkF m 152 #[.val (.int x0), .val (.int x1), .val (.int x2), .val (.int x3), .val (.int x4), .val (.int x5), .val (.int ka), .val (.int kb), .val (.int ha), .val (.int j1), .val (.int va), .val (.int j2), .val (.ref b3), .val (.ref b13), .unset] [(.int j2), (.int va)])) tt from XS.iload X21.here hx rfl (hb hby at_150) rfl zk
          suffices zk : Steps p.tables e below (T21.setTop (mkF m 172 #[.val (.int x0), .val (.int x1), .val (.int x2), .val (.int x3), .val (.int x4), .val (.int x5), .val (.int ka), .val (.int kb), .val (.int ha), .val (.int j1), .val (.int va), .val (.int j2), .val (.ref b3), .val (.ref b13), .unset] [])) tt from XS.icmpYes X21.here hx rfl (pc0 := 152) (pc' := 172) rfl (hb hby at_152) rfl (teq hc152).1 (by decide) (by decide) zk
          suffices zk : Steps p.tables e below (T21.setTop (mkF m 173 #[.val (.int x0), .val (.int x1), .val (.int x2), .val (.int x3), .val (.int x4), .val (.int x5), .val (.int ka), .val (.int kb), .val (.int ha), .val (.int j1), .val (.int va), .val (.int j2), .val (.ref b3), .val (.ref b13), .unset] [(.int (0 : Int32))])) tt from XS.iconst X21.here hx rfl (hb hby at_172) zk
          suffices zk : Steps p.tables e below (T21.setTop (mkF m 175 #[.val (.int x0), .val (.int x1), .val (.int x2), .val (.int x3), .val (.int x4), .val (.int x5), .val (.int ka), .val (.int kb), .val (.int ha), .val (.int j1), .val (.int va), .val (.int j2), .val (.ref b3), .val (.ref b13), .val (.int (0 : Int32))] [])) tt from XS.istore X21.here hx rfl (hb hby at_173) rfl (l' := #[.val (.int x0), .val (.int x1), .val (.int x2), .val (.int x3), .val (.int x4), .val (.int x5), .val (.int ka), .val (.int kb), .val (.int ha), .val (.int j1), .val (.int va), .val (.int j2), .val (.ref b3), .val (.ref b13), .val (.int (0 : Int32))]) rfl zk
          exact zk
        · by_cases hc159 : va < j2
          · refine ⟨(-1 : Int32), (by have z_hc104 := t_eq hc104; have z_hc128 := t_eq hc128; have z_hc152 := t_ne hc152; have z_hc159 := t_lt hc159; have k0 := k_0; have k1 := k_1; have km := k_m1; omega), fun tt zk => ?_⟩
            suffices zk : Steps p.tables e below (T21.setTop (mkF m 102 #[.val (.int x0), .val (.int x1), .val (.int x2), .val (.int x3), .val (.int x4), .val (.int x5), .val (.int ka), .val (.int kb), .val (.int ha), .val (.int j1), .val (.int va), .val (.int j2), .val (.ref b3), .val (.ref b13), .unset] [(.int ka)])) tt from XS.iload X21.here hx rfl (hb hby at_100) rfl zk
            suffices zk : Steps p.tables e below (T21.setTop (mkF m 104 #[.val (.int x0), .val (.int x1), .val (.int x2), .val (.int x3), .val (.int x4), .val (.int x5), .val (.int ka), .val (.int kb), .val (.int ha), .val (.int j1), .val (.int va), .val (.int j2), .val (.ref b3), .val (.ref b13), .unset] [(.int kb), (.int ka)])) tt from XS.iload X21.here hx rfl (hb hby at_102) rfl zk
            suffices zk : Steps p.tables e below (T21.setTop (mkF m 124 #[.val (.int x0), .val (.int x1), .val (.int x2), .val (.int x3), .val (.int x4), .val (.int x5), .val (.int ka), .val (.int kb), .val (.int ha), .val (.int j1), .val (.int va), .val (.int j2), .val (.ref b3), .val (.ref b13), .unset] [])) tt from XS.icmpYes X21.here hx rfl (pc0 := 104) (pc' := 124) rfl (hb hby at_104) rfl (teq hc104).1 (by decide) (by decide) zk
            suffices zk : Steps p.tables e below (T21.setTop (mkF m 126 #[.val (.int x0), .val (.int x1), .val (.int x2), .val (.int x3), .val (.int x4), .val (.int x5), .val (.int ka), .val (.int kb), .val (.int ha), .val (.int j1), .val (.int va), .val (.int j2), .val (.ref b3), .val (.ref b13), .unset] [(.int ha)])) tt from XS.iload X21.here hx rfl (hb hby at_124) rfl zk
            suffices zk : Steps p.tables e below (T21.setTop (mkF m 128 #[.val (.int x0), .val (.int x1), .val (.int x2), .val (.int x3), .val (.int x4), .val (.int x5), .val (.int ka), .val (.int kb), .val (.int ha), .val (.int j1), .val (.int va), .val (.int j2), .val (.ref b3), .val (.ref b13), .unset] [(.int j1), (.int ha)])) tt from XS.iload X21.here hx rfl (hb hby at_126) rfl zk
            suffices zk : Steps p.tables e below (T21.setTop (mkF m 148 #[.val (.int x0), .val (.int x1), .val (.int x2), .val (.int x3), .val (.int x4), .val (.int x5), .val (.int ka), .val (.int kb), .val (.int ha), .val (.int j1), .val (.int va), .val (.int j2), .val (.ref b3), .val (.ref b13), .unset] [])) tt from XS.icmpYes X21.here hx rfl (pc0 := 128) (pc' := 148) rfl (hb hby at_128) rfl (teq hc128).1 (by decide) (by decide) zk
            suffices zk : Steps p.tables e below (T21.setTop (mkF m 150 #[.val (.int x0), .val (.int x1), .val (.int x2), .val (.int x3), .val (.int x4), .val (.int x5), .val (.int ka), .val (.int kb), .val (.int ha), .val (.int j1), .val (.int va), .val (.int j2), .val (.ref b3), .val (.ref b13), .unset] [(.int va)])) tt from XS.iload X21.here hx rfl (hb hby at_148) rfl zk
            suffices zk : Steps p.tables e below (T21.setTop (mkF m 152 #[.val (.int x0), .val (.int x1), .val (.int x2), .val (.int x3), .val (.int x4), .val (.int x5), .val (.int ka), .val (.int kb), .val (.int ha), .val (.int j1), .val (.int va), .val (.int j2), .val (.ref b3), .val (.ref b13), .unset] [(.int j2), (.int va)])) tt from XS.iload X21.here hx rfl (hb hby at_150) rfl zk
            suffices zk : Steps p.tables e below (T21.setTop (mkF m 155 #[.val (.int x0), .val (.int x1), .val (.int x2), .val (.int x3), .val (.int x4), .val (.int x5), .val (.int ka), .val (.int kb), .val (.int ha), .val (.int j1), .val (.int va), .val (.int j2), .val (.ref b3), .val (.ref b13), .unset] [])) tt from XS.icmpNo X21.here hx rfl (hb hby at_152) rfl (feq hc152).1 zk
            suffices zk : Steps p.tables e below (T21.setTop (mkF m 157 #[.val (.int x0), .val (.int x1), .val (.int x2), .val (.int x3), .val (.int x4), .val (.int x5), .val (.int ka), .val (.int kb), .val (.int ha), .val (.int j1), .val (.int va), .val (.int j2), .val (.ref b3), .val (.ref b13), .unset] [(.int va)])) tt from XS.iload X21.here hx rfl (hb hby at_155) rfl zk
            suffices zk : Steps p.tables e below (T21.setTop (mkF m 159 #[.val (.int x0), .val (.int x1), .val (.int x2), .val (.int x3), .val (.int x4), .val (.int x5), .val (.int ka), .val (.int kb), .val (.int ha), .val (.int j1), .val (.int va), .val (.int j2), .val (.ref b3), .val (.ref b13), .unset] [(.int j2), (.int va)])) tt from XS.iload X21.here hx rfl (hb hby at_157) rfl zk
            suffices zk : Steps p.tables e below (T21.setTop (mkF m 162 #[.val (.int x0), .val (.int x1), .val (.int x2), .val (.int x3), .val (.int x4), .val (.int x5), .val (.int ka), .val (.int kb), .val (.int ha), .val (.int j1), .val (.int va), .val (.int j2), .val (.ref b3), .val (.ref b13), .unset] [])) tt from XS.icmpNo X21.here hx rfl (hb hby at_159) rfl (tlt hc159).2.1 zk
            suffices zk : Steps p.tables e below (T21.setTop (mkF m 163 #[.val (.int x0), .val (.int x1), .val (.int x2), .val (.int x3), .val (.int x4), .val (.int x5), .val (.int ka), .val (.int kb), .val (.int ha), .val (.int j1), .val (.int va), .val (.int j2), .val (.ref b3), .val (.ref b13), .unset] [(.int (-1 : Int32))])) tt from XS.iconst X21.here hx rfl (hb hby at_162) zk
            suffices zk : Steps p.tables e below (T21.setTop (mkF m 167 #[.val (.int x0), .val (.int x1), .val (.int x2), .val (.int x3), .val (.int x4), .val (.int x5), .val (.int ka), .val (.int kb), .val (.int ha), .val (.int j1), .val (.int va), .val (.int j2), .val (.ref b3), .val (.ref b13), .unset] [(.int (-1 : Int32))])) tt from XS.goto X21.here hx rfl (pc0 := 163) (pc' := 167) rfl (hb hby at_163) (by decide) (by decide) zk
            suffices zk : Steps p.tables e below (T21.setTop (mkF m 169 #[.val (.int x0), .val (.int x1), .val (.int x2), .val (.int x3), .val (.int x4), .val (.int x5), .val (.int ka), .val (.int kb), .val (.int ha), .val (.int j1), .val (.int va), .val (.int j2), .val (.ref b3), .val (.ref b13), .val (.int (-1 : Int32))] [])) tt from XS.istore X21.here hx rfl (hb hby at_167) rfl (l' := #[.val (.int x0), .val (.int x1), .val (.int x2), .val (.int x3), .val (.int x4), .val (.int x5), .val (.int ka), .val (.int kb), .val (.int ha), .val (.int j1), .val (.int va), .val (.int j2), .val (.ref b3), .val (.ref b13), .val (.int (-1 : Int32))]) rfl zk
            suffices zk : Steps p.tables e below (T21.setTop (mkF m 175 #[.val (.int x0), .val (.int x1), .val (.int x2), .val (.int x3), .val (.int x4), .val (.int x5), .val (.int ka), .val (.int kb), .val (.int ha), .val (.int j1), .val (.int va), .val (.int j2), .val (.ref b3), .val (.ref b13), .val (.int (-1 : Int32))] [])) tt from XS.goto X21.here hx rfl (pc0 := 169) (pc' := 175) rfl (hb hby at_169) (by decide) (by decide) zk
            exact zk
          · refine ⟨(1 : Int32), (by have z_hc104 := t_eq hc104; have z_hc128 := t_eq hc128; have z_hc152 := t_ne hc152; have z_hc159 := t_nlt hc159; have k0 := k_0; have k1 := k_1; have km := k_m1; omega), fun tt zk => ?_⟩
            suffices zk : Steps p.tables e below (T21.setTop (mkF m 102 #[.val (.int x0), .val (.int x1), .val (.int x2), .val (.int x3), .val (.int x4), .val (.int x5), .val (.int ka), .val (.int kb), .val (.int ha), .val (.int j1), .val (.int va), .val (.int j2), .val (.ref b3), .val (.ref b13), .unset] [(.int ka)])) tt from XS.iload X21.here hx rfl (hb hby at_100) rfl zk
            suffices zk : Steps p.tables e below (T21.setTop (mkF m 104 #[.val (.int x0), .val (.int x1), .val (.int x2), .val (.int x3), .val (.int x4), .val (.int x5), .val (.int ka), .val (.int kb), .val (.int ha), .val (.int j1), .val (.int va), .val (.int j2), .val (.ref b3), .val (.ref b13), .unset] [(.int kb), (.int ka)])) tt from XS.iload X21.here hx rfl (hb hby at_102) rfl zk
            suffices zk : Steps p.tables e below (T21.setTop (mkF m 124 #[.val (.int x0), .val (.int x1), .val (.int x2), .val (.int x3), .val (.int x4), .val (.int x5), .val (.int ka), .val (.int kb), .val (.int ha), .val (.int j1), .val (.int va), .val (.int j2), .val (.ref b3), .val (.ref b13), .unset] [])) tt from XS.icmpYes X21.here hx rfl (pc0 := 104) (pc' := 124) rfl (hb hby at_104) rfl (teq hc104).1 (by decide) (by decide) zk
            suffices zk : Steps p.tables e below (T21.setTop (mkF m 126 #[.val (.int x0), .val (.int x1), .val (.int x2), .val (.int x3), .val (.int x4), .val (.int x5), .val (.int ka), .val (.int kb), .val (.int ha), .val (.int j1), .val (.int va), .val (.int j2), .val (.ref b3), .val (.ref b13), .unset] [(.int ha)])) tt from XS.iload X21.here hx rfl (hb hby at_124) rfl zk
            suffices zk : Steps p.tables e below (T21.setTop (mkF m 128 #[.val (.int x0), .val (.int x1), .val (.int x2), .val (.int x3), .val (.int x4), .val (.int x5), .val (.int ka), .val (.int kb), .val (.int ha), .val (.int j1), .val (.int va), .val (.int j2), .val (.ref b3), .val (.ref b13), .unset] [(.int j1), (.int ha)])) tt from XS.iload X21.here hx rfl (hb hby at_126) rfl zk
            suffices zk : Steps p.tables e below (T21.setTop (mkF m 148 #[.val (.int x0), .val (.int x1), .val (.int x2), .val (.int x3), .val (.int x4), .val (.int x5), .val (.int ka), .val (.int kb), .val (.int ha), .val (.int j1), .val (.int va), .val (.int j2), .val (.ref b3), .val (.ref b13), .unset] [])) tt from XS.icmpYes X21.here hx rfl (pc0 := 128) (pc' := 148) rfl (hb hby at_128) rfl (teq hc128).1 (by decide) (by decide) zk
            suffices zk : Steps p.tables e below (T21.setTop (mkF m 150 #[.val (.int x0), .val (.int x1), .val (.int x2), .val (.int x3), .val (.int x4), .val (.int x5), .val (.int ka), .val (.int kb), .val (.int ha), .val (.int j1), .val (.int va), .val (.int j2), .val (.ref b3), .val (.ref b13), .unset] [(.int va)])) tt from XS.iload X21.here hx rfl (hb hby at_148) rfl zk
            suffices zk : Steps p.tables e below (T21.setTop (mkF m 152 #[.val (.int x0), .val (.int x1), .val (.int x2), .val (.int x3), .val (.int x4), .val (.int x5), .val (.int ka), .val (.int kb), .val (.int ha), .val (.int j1), .val (.int va), .val (.int j2), .val (.ref b3), .val (.ref b13), .unset] [(.int j2), (.int va)])) tt from XS.iload X21.here hx rfl (hb hby at_150) rfl zk
            suffices zk : Steps p.tables e below (T21.setTop (mkF m 155 #[.val (.int x0), .val (.int x1), .val (.int x2), .val (.int x3), .val (.int x4), .val (.int x5), .val (.int ka), .val (.int kb), .val (.int ha), .val (.int j1), .val (.int va), .val (.int j2), .val (.ref b3), .val (.ref b13), .unset] [])) tt from XS.icmpNo X21.here hx rfl (hb hby at_152) rfl (feq hc152).1 zk
            suffices zk : Steps p.tables e below (T21.setTop (mkF m 157 #[.val (.int x0), .val (.int x1), .val (.int x2), .val (.int x3), .val (.int x4), .val (.int x5), .val (.int ka), .val (.int kb), .val (.int ha), .val (.int j1), .val (.int va), .val (.int j2), .val (.ref b3), .val (.ref b13), .unset] [(.int va)])) tt from XS.iload X21.here hx rfl (hb hby at_155) rfl zk
            suffices zk : Steps p.tables e below (T21.setTop (mkF m 159 #[.val (.int x0), .val (.int x1), .val (.int x2), .val (.int x3), .val (.int x4), .val (.int x5), .val (.int ka), .val (.int kb), .val (.int ha), .val (.int j1), .val (.int va), .val (.int j2), .val (.ref b3), .val (.ref b13), .unset] [(.int j2), (.int va)])) tt from XS.iload X21.here hx rfl (hb hby at_157) rfl zk
            suffices zk : Steps p.tables e below (T21.setTop (mkF m 166 #[.val (.int x0), .val (.int x1), .val (.int x2), .val (.int x3), .val (.int x4), .val (.int x5), .val (.int ka), .val (.int kb), .val (.int ha), .val (.int j1), .val (.int va), .val (.int j2), .val (.ref b3), .val (.ref b13), .unset] [])) tt from XS.icmpYes X21.here hx rfl (pc0 := 159) (pc' := 166) rfl (hb hby at_159) rfl (flt hc159).2.1 (by decide) (by decide) zk
            suffices zk : Steps p.tables e below (T21.setTop (mkF m 167 #[.val (.int x0), .val (.int x1), .val (.int x2), .val (.int x3), .val (.int x4), .val (.int x5), .val (.int ka), .val (.int kb), .val (.int ha), .val (.int j1), .val (.int va), .val (.int j2), .val (.ref b3), .val (.ref b13), .unset] [(.int (1 : Int32))])) tt from XS.iconst X21.here hx rfl (hb hby at_166) zk
            suffices zk : Steps p.tables e below (T21.setTop (mkF m 169 #[.val (.int x0), .val (.int x1), .val (.int x2), .val (.int x3), .val (.int x4), .val (.int x5), .val (.int ka), .val (.int kb), .val (.int ha), .val (.int j1), .val (.int va), .val (.int j2), .val (.ref b3), .val (.ref b13), .val (.int (1 : Int32))] [])) tt from XS.istore X21.here hx rfl (hb hby at_167) rfl (l' := #[.val (.int x0), .val (.int x1), .val (.int x2), .val (.int x3), .val (.int x4), .val (.int x5), .val (.int ka), .val (.int kb), .val (.int ha), .val (.int j1), .val (.int va), .val (.int j2), .val (.ref b3), .val (.ref b13), .val (.int (1 : Int32))]) rfl zk
            suffices zk : Steps p.tables e below (T21.setTop (mkF m 175 #[.val (.int x0), .val (.int x1), .val (.int x2), .val (.int x3), .val (.int x4), .val (.int x5), .val (.int ka), .val (.int kb), .val (.int ha), .val (.int j1), .val (.int va), .val (.int j2), .val (.ref b3), .val (.ref b13), .val (.int (1 : Int32))] [])) tt from XS.goto X21.here hx rfl (pc0 := 169) (pc' := 175) rfl (hb hby at_169) (by decide) (by decide) zk
            exact zk
      · by_cases hc135 : ha < j1
        · refine ⟨(-1 : Int32), (by have z_hc104 := t_eq hc104; have z_hc128 := t_ne hc128; have z_hc135 := t_lt hc135; have k0 := k_0; have k1 := k_1; have km := k_m1; omega), fun tt zk => ?_⟩
          suffices zk : Steps p.tables e below (T21.setTop (mkF m 102 #[.val (.int x0), .val (.int x1), .val (.int x2), .val (.int x3), .val (.int x4), .val (.int x5), .val (.int ka), .val (.int kb), .val (.int ha), .val (.int j1), .val (.int va), .val (.int j2), .val (.ref b3), .val (.ref b13), .unset] [(.int ka)])) tt from XS.iload X21.here hx rfl (hb hby at_100) rfl zk
          suffices zk : Steps p.tables e below (T21.setTop (mkF m 104 #[.val (.int x0), .val (.int x1), .val (.int x2), .val (.int x3), .val (.int x4), .val (.int x5), .val (.int ka), .val (.int kb), .val (.int ha), .val (.int j1), .val (.int va), .val (.int j2), .val (.ref b3), .val (.ref b13), .unset] [(.int kb), (.int ka)])) tt from XS.iload X21.here hx rfl (hb hby at_102) rfl zk
          suffices zk : Steps p.tables e below (T21.setTop (mkF m 124 #[.val (.int x0), .val (.int x1), .val (.int x2), .val (.int x3), .val (.int x4), .val (.int x5), .val (.int ka), .val (.int kb), .val (.int ha), .val (.int j1), .val (.int va), .val (.int j2), .val (.ref b3), .val (.ref b13), .unset] [])) tt from XS.icmpYes X21.here hx rfl (pc0 := 104) (pc' := 124) rfl (hb hby at_104) rfl (teq hc104).1 (by decide) (by decide) zk
          suffices zk : Steps p.tables e below (T21.setTop (mkF m 126 #[.val (.int x0), .val (.int x1), .val (.int x2), .val (.int x3), .val (.int x4), .val (.int x5), .val (.int ka), .val (.int kb), .val (.int ha), .val (.int j1), .val (.int va), .val (.int j2), .val (.ref b3), .val (.ref b13), .unset] [(.int ha)])) tt from XS.iload X21.here hx rfl (hb hby at_124) rfl zk
          suffices zk : Steps p.tables e below (T21.setTop (mkF m 128 #[.val (.int x0), .val (.int x1), .val (.int x2), .val (.int x3), .val (.int x4), .val (.int x5), .val (.int ka), .val (.int kb), .val (.int ha), .val (.int j1), .val (.int va), .val (.int j2), .val (.ref b3), .val (.ref b13), .unset] [(.int j1), (.int ha)])) tt from XS.iload X21.here hx rfl (hb hby at_126) rfl zk
          suffices zk : Steps p.tables e below (T21.setTop (mkF m 131 #[.val (.int x0), .val (.int x1), .val (.int x2), .val (.int x3), .val (.int x4), .val (.int x5), .val (.int ka), .val (.int kb), .val (.int ha), .val (.int j1), .val (.int va), .val (.int j2), .val (.ref b3), .val (.ref b13), .unset] [])) tt from XS.icmpNo X21.here hx rfl (hb hby at_128) rfl (feq hc128).1 zk
          suffices zk : Steps p.tables e below (T21.setTop (mkF m 133 #[.val (.int x0), .val (.int x1), .val (.int x2), .val (.int x3), .val (.int x4), .val (.int x5), .val (.int ka), .val (.int kb), .val (.int ha), .val (.int j1), .val (.int va), .val (.int j2), .val (.ref b3), .val (.ref b13), .unset] [(.int ha)])) tt from XS.iload X21.here hx rfl (hb hby at_131) rfl zk
          suffices zk : Steps p.tables e below (T21.setTop (mkF m 135 #[.val (.int x0), .val (.int x1), .val (.int x2), .val (.int x3), .val (.int x4), .val (.int x5), .val (.int ka), .val (.int kb), .val (.int ha), .val (.int j1), .val (.int va), .val (.int j2), .val (.ref b3), .val (.ref b13), .unset] [(.int j1), (.int ha)])) tt from XS.iload X21.here hx rfl (hb hby at_133) rfl zk
          suffices zk : Steps p.tables e below (T21.setTop (mkF m 138 #[.val (.int x0), .val (.int x1), .val (.int x2), .val (.int x3), .val (.int x4), .val (.int x5), .val (.int ka), .val (.int kb), .val (.int ha), .val (.int j1), .val (.int va), .val (.int j2), .val (.ref b3), .val (.ref b13), .unset] [])) tt from XS.icmpNo X21.here hx rfl (hb hby at_135) rfl (tlt hc135).2.1 zk
          suffices zk : Steps p.tables e below (T21.setTop (mkF m 139 #[.val (.int x0), .val (.int x1), .val (.int x2), .val (.int x3), .val (.int x4), .val (.int x5), .val (.int ka), .val (.int kb), .val (.int ha), .val (.int j1), .val (.int va), .val (.int j2), .val (.ref b3), .val (.ref b13), .unset] [(.int (-1 : Int32))])) tt from XS.iconst X21.here hx rfl (hb hby at_138) zk
          suffices zk : Steps p.tables e below (T21.setTop (mkF m 143 #[.val (.int x0), .val (.int x1), .val (.int x2), .val (.int x3), .val (.int x4), .val (.int x5), .val (.int ka), .val (.int kb), .val (.int ha), .val (.int j1), .val (.int va), .val (.int j2), .val (.ref b3), .val (.ref b13), .unset] [(.int (-1 : Int32))])) tt from XS.goto X21.here hx rfl (pc0 := 139) (pc' := 143) rfl (hb hby at_139) (by decide) (by decide) zk
          suffices zk : Steps p.tables e below (T21.setTop (mkF m 145 #[.val (.int x0), .val (.int x1), .val (.int x2), .val (.int x3), .val (.int x4), .val (.int x5), .val (.int ka), .val (.int kb), .val (.int ha), .val (.int j1), .val (.int va), .val (.int j2), .val (.ref b3), .val (.ref b13), .val (.int (-1 : Int32))] [])) tt from XS.istore X21.here hx rfl (hb hby at_143) rfl (l' := #[.val (.int x0), .val (.int x1), .val (.int x2), .val (.int x3), .val (.int x4), .val (.int x5), .val (.int ka), .val (.int kb), .val (.int ha), .val (.int j1), .val (.int va), .val (.int j2), .val (.ref b3), .val (.ref b13), .val (.int (-1 : Int32))]) rfl zk
          suffices zk : Steps p.tables e below (T21.setTop (mkF m 175 #[.val (.int x0), .val (.int x1), .val (.int x2), .val (.int x3), .val (.int x4), .val (.int x5), .val (.int ka), .val (.int kb), .val (.int ha), .val (.int j1), .val (.int va), .val (.int j2), .val (.ref b3), .val (.ref b13), .val (.int (-1 : Int32))] [])) tt from XS.goto X21.here hx rfl (pc0 := 145) (pc' := 175) rfl (hb hby at_145) (by decide) (by decide) zk
          exact zk
        · refine ⟨(1 : Int32), (by have z_hc104 := t_eq hc104; have z_hc128 := t_ne hc128; have z_hc135 := t_nlt hc135; have k0 := k_0; have k1 := k_1; have km := k_m1; omega), fun tt zk => ?_⟩
          suffices zk : Steps p.tables e below (T21.setTop (mkF m 102 #[.val (.int x0), .val (.int x1), .val (.int x2), .val (.int x3), .val (.int x4), .val (.int x5), .val (.int ka), .val (.int kb), .val (.int ha), .val (.int j1), .val (.int va), .val (.int j2), .val (.ref b3), .val (.ref b13), .unset] [(.int ka)])) tt from XS.iload X21.here hx rfl (hb hby at_100) rfl zk
          suffices zk : Steps p.tables e below (T21.setTop (mkF m 104 #[.val (.int x0), .val (.int x1), .val (.int x2), .val (.int x3), .val (.int x4), .val (.int x5), .val (.int ka), .val (.int kb), .val (.int ha), .val (.int j1), .val (.int va), .val (.int j2), .val (.ref b3), .val (.ref b13), .unset] [(.int kb), (.int ka)])) tt from XS.iload X21.here hx rfl (hb hby at_102) rfl zk
          suffices zk : Steps p.tables e below (T21.setTop (mkF m 124 #[.val (.int x0), .val (.int x1), .val (.int x2), .val (.int x3), .val (.int x4), .val (.int x5), .val (.int ka), .val (.int kb), .val (.int ha), .val (.int j1), .val (.int va), .val (.int j2), .val (.ref b3), .val (.ref b13), .unset] [])) tt from XS.icmpYes X21.here hx rfl (pc0 := 104) (pc' := 124) rfl (hb hby at_104) rfl (teq hc104).1 (by decide) (by decide) zk
          suffices zk : Steps p.tables e below (T21.setTop (mkF m 126 #[.val (.int x0), .val (.int x1), .val (.int x2), .val (.int x3), .val (.int x4), .val (.int x5), .val (.int ka), .val (.int kb), .val (.int ha), .val (.int j1), .val (.int va), .val (.int j2), .val (.ref b3), .val (.ref b13), .unset] [(.int ha)])) tt from XS.iload X21.here hx rfl (hb hby at_124) rfl zk
          suffices zk : Steps p.tables e below (T21.setTop (mkF m 128 #[.val (.int x0), .val (.int x1), .val (.int x2), .val (.int x3), .val (.int x4), .val (.int x5), .val (.int ka), .val (.int kb), .val (.int ha), .val (.int j1), .val (.int va), .val (.int j2), .val (.ref b3), .val (.ref b13), .unset] [(.int j1), (.int ha)])) tt from XS.iload X21.here hx rfl (hb hby at_126) rfl zk
          suffices zk : Steps p.tables e below (T21.setTop (mkF m 131 #[.val (.int x0), .val (.int x1), .val (.int x2), .val (.int x3), .val (.int x4), .val (.int x5), .val (.int ka), .val (.int kb), .val (.int ha), .val (.int j1), .val (.int va), .val (.int j2), .val (.ref b3), .val (.ref b13), .unset] [])) tt from XS.icmpNo X21.here hx rfl (hb hby at_128) rfl (feq hc128).1 zk
          suffices zk : Steps p.tables e below (T21.setTop (mkF m 133 #[.val (.int x0), .val (.int x1), .val (.int x2), .val (.int x3), .val (.int x4), .val (.int x5), .val (.int ka), .val (.int kb), .val (.int ha), .val (.int j1), .val (.int va), .val (.int j2), .val (.ref b3), .val (.ref b13), .unset] [(.int ha)])) tt from XS.iload X21.here hx rfl (hb hby at_131) rfl zk
          suffices zk : Steps p.tables e below (T21.setTop (mkF m 135 #[.val (.int x0), .val (.int x1), .val (.int x2), .val (.int x3), .val (.int x4), .val (.int x5), .val (.int ka), .val (.int kb), .val (.int ha), .val (.int j1), .val (.int va), .val (.int j2), .val (.ref b3), .val (.ref b13), .unset] [(.int j1), (.int ha)])) tt from XS.iload X21.here hx rfl (hb hby at_133) rfl zk
          suffices zk : Steps p.tables e below (T21.setTop (mkF m 142 #[.val (.int x0), .val (.int x1), .val (.int x2), .val (.int x3), .val (.int x4), .val (.int x5), .val (.int ka), .val (.int kb), .val (.int ha), .val (.int j1), .val (.int va), .val (.int j2), .val (.ref b3), .val (.ref b13), .unset] [])) tt from XS.icmpYes X21.here hx rfl (pc0 := 135) (pc' := 142) rfl (hb hby at_135) rfl (flt hc135).2.1 (by decide) (by decide) zk
          suffices zk : Steps p.tables e below (T21.setTop (mkF m 143 #[.val (.int x0), .val (.int x1), .val (.int x2), .val (.int x3), .val (.int x4), .val (.int x5), .val (.int ka), .val (.int kb), .val (.int ha), .val (.int j1), .val (.int va), .val (.int j2), .val (.ref b3), .val (.ref b13), .unset] [(.int (1 : Int32))])) tt from XS.iconst X21.here hx rfl (hb hby at_142) zk
          suffices zk : Steps p.tables e below (T21.setTop (mkF m 145 #[.val (.int x0), .val (.int x1), .val (.int x2), .val (.int x3), .val (.int x4), .val (.int x5), .val (.int ka), .val (.int kb), .val (.int ha), .val (.int j1), .val (.int va), .val (.int j2), .val (.ref b3), .val (.ref b13), .val (.int (1 : Int32))] [])) tt from XS.istore X21.here hx rfl (hb hby at_143) rfl (l' := #[.val (.int x0), .val (.int x1), .val (.int x2), .val (.int x3), .val (.int x4), .val (.int x5), .val (.int ka), .val (.int kb), .val (.int ha), .val (.int j1), .val (.int va), .val (.int j2), .val (.ref b3), .val (.ref b13), .val (.int (1 : Int32))]) rfl zk
          suffices zk : Steps p.tables e below (T21.setTop (mkF m 175 #[.val (.int x0), .val (.int x1), .val (.int x2), .val (.int x3), .val (.int x4), .val (.int x5), .val (.int ka), .val (.int kb), .val (.int ha), .val (.int j1), .val (.int va), .val (.int j2), .val (.ref b3), .val (.ref b13), .val (.int (1 : Int32))] [])) tt from XS.goto X21.here hx rfl (pc0 := 145) (pc' := 175) rfl (hb hby at_145) (by decide) (by decide) zk
          exact zk
    · by_cases hc111 : ka < kb
      · refine ⟨(-1 : Int32), (by have z_hc104 := t_ne hc104; have z_hc111 := t_lt hc111; have k0 := k_0; have k1 := k_1; have km := k_m1; omega), fun tt zk => ?_⟩
        suffices zk : Steps p.tables e below (T21.setTop (mkF m 102 #[.val (.int x0), .val (.int x1), .val (.int x2), .val (.int x3), .val (.int x4), .val (.int x5), .val (.int ka), .val (.int kb), .val (.int ha), .val (.int j1), .val (.int va), .val (.int j2), .val (.ref b3), .val (.ref b13), .unset] [(.int ka)])) tt from XS.iload X21.here hx rfl (hb hby at_100) rfl zk
        suffices zk : Steps p.tables e below (T21.setTop (mkF m 104 #[.val (.int x0), .val (.int x1), .val (.int x2), .val (.int x3), .val (.int x4), .val (.int x5), .val (.int ka), .val (.int kb), .val (.int ha), .val (.int j1), .val (.int va), .val (.int j2), .val (.ref b3), .val (.ref b13), .unset] [(.int kb), (.int ka)])) tt from XS.iload X21.here hx rfl (hb hby at_102) rfl zk
        suffices zk : Steps p.tables e below (T21.setTop (mkF m 107 #[.val (.int x0), .val (.int x1), .val (.int x2), .val (.int x3), .val (.int x4), .val (.int x5), .val (.int ka), .val (.int kb), .val (.int ha), .val (.int j1), .val (.int va), .val (.int j2), .val (.ref b3), .val (.ref b13), .unset] [])) tt from XS.icmpNo X21.here hx rfl (hb hby at_104) rfl (feq hc104).1 zk
        suffices zk : Steps p.tables e below (T21.setTop (mkF m 109 #[.val (.int x0), .val (.int x1), .val (.int x2), .val (.int x3), .val (.int x4), .val (.int x5), .val (.int ka), .val (.int kb), .val (.int ha), .val (.int j1), .val (.int va), .val (.int j2), .val (.ref b3), .val (.ref b13), .unset] [(.int ka)])) tt from XS.iload X21.here hx rfl (hb hby at_107) rfl zk
        suffices zk : Steps p.tables e below (T21.setTop (mkF m 111 #[.val (.int x0), .val (.int x1), .val (.int x2), .val (.int x3), .val (.int x4), .val (.int x5), .val (.int ka), .val (.int kb), .val (.int ha), .val (.int j1), .val (.int va), .val (.int j2), .val (.ref b3), .val (.ref b13), .unset] [(.int kb), (.int ka)])) tt from XS.iload X21.here hx rfl (hb hby at_109) rfl zk
        suffices zk : Steps p.tables e below (T21.setTop (mkF m 114 #[.val (.int x0), .val (.int x1), .val (.int x2), .val (.int x3), .val (.int x4), .val (.int x5), .val (.int ka), .val (.int kb), .val (.int ha), .val (.int j1), .val (.int va), .val (.int j2), .val (.ref b3), .val (.ref b13), .unset] [])) tt from XS.icmpNo X21.here hx rfl (hb hby at_111) rfl (tlt hc111).2.1 zk
        suffices zk : Steps p.tables e below (T21.setTop (mkF m 115 #[.val (.int x0), .val (.int x1), .val (.int x2), .val (.int x3), .val (.int x4), .val (.int x5), .val (.int ka), .val (.int kb), .val (.int ha), .val (.int j1), .val (.int va), .val (.int j2), .val (.ref b3), .val (.ref b13), .unset] [(.int (-1 : Int32))])) tt from XS.iconst X21.here hx rfl (hb hby at_114) zk
        suffices zk : Steps p.tables e below (T21.setTop (mkF m 119 #[.val (.int x0), .val (.int x1), .val (.int x2), .val (.int x3), .val (.int x4), .val (.int x5), .val (.int ka), .val (.int kb), .val (.int ha), .val (.int j1), .val (.int va), .val (.int j2), .val (.ref b3), .val (.ref b13), .unset] [(.int (-1 : Int32))])) tt from XS.goto X21.here hx rfl (pc0 := 115) (pc' := 119) rfl (hb hby at_115) (by decide) (by decide) zk
        suffices zk : Steps p.tables e below (T21.setTop (mkF m 121 #[.val (.int x0), .val (.int x1), .val (.int x2), .val (.int x3), .val (.int x4), .val (.int x5), .val (.int ka), .val (.int kb), .val (.int ha), .val (.int j1), .val (.int va), .val (.int j2), .val (.ref b3), .val (.ref b13), .val (.int (-1 : Int32))] [])) tt from XS.istore X21.here hx rfl (hb hby at_119) rfl (l' := #[.val (.int x0), .val (.int x1), .val (.int x2), .val (.int x3), .val (.int x4), .val (.int x5), .val (.int ka), .val (.int kb), .val (.int ha), .val (.int j1), .val (.int va), .val (.int j2), .val (.ref b3), .val (.ref b13), .val (.int (-1 : Int32))]) rfl zk
        suffices zk : Steps p.tables e below (T21.setTop (mkF m 175 #[.val (.int x0), .val (.int x1), .val (.int x2), .val (.int x3), .val (.int x4), .val (.int x5), .val (.int ka), .val (.int kb), .val (.int ha), .val (.int j1), .val (.int va), .val (.int j2), .val (.ref b3), .val (.ref b13), .val (.int (-1 : Int32))] [])) tt from XS.goto X21.here hx rfl (pc0 := 121) (pc' := 175) rfl (hb hby at_121) (by decide) (by decide) zk
        exact zk
      · refine ⟨(1 : Int32), (by have z_hc104 := t_ne hc104; have z_hc111 := t_nlt hc111; have k0 := k_0; have k1 := k_1; have km := k_m1; omega), fun tt zk => ?_⟩
        suffices zk : Steps p.tables e below (T21.setTop (mkF m 102 #[.val (.int x0), .val (.int x1), .val (.int x2), .val (.int x3), .val (.int x4), .val (.int x5), .val (.int ka), .val (.int kb), .val (.int ha), .val (.int j1), .val (.int va), .val (.int j2), .val (.ref b3), .val (.ref b13), .unset] [(.int ka)])) tt from XS.iload X21.here hx rfl (hb hby at_100) rfl zk
        suffices zk : Steps p.tables e below (T21.setTop (mkF m 104 #[.val (.int x0), .val (.int x1), .val (.int x2), .val (.int x3), .val (.int x4), .val (.int x5), .val (.int ka), .val (.int kb), .val (.int ha), .val (.int j1), .val (.int va), .val (.int j2), .val (.ref b3), .val (.ref b13), .unset] [(.int kb), (.int ka)])) tt from XS.iload X21.here hx rfl (hb hby at_102) rfl zk
        suffices zk : Steps p.tables e below (T21.setTop (mkF m 107 #[.val (.int x0), .val (.int x1), .val (.int x2), .val (.int x3), .val (.int x4), .val (.int x5), .val (.int ka), .val (.int kb), .val (.int ha), .val (.int j1), .val (.int va), .val (.int j2), .val (.ref b3), .val (.ref b13), .unset] [])) tt from XS.icmpNo X21.here hx rfl (hb hby at_104) rfl (feq hc104).1 zk
        suffices zk : Steps p.tables e below (T21.setTop (mkF m 109 #[.val (.int x0), .val (.int x1), .val (.int x2), .val (.int x3), .val (.int x4), .val (.int x5), .val (.int ka), .val (.int kb), .val (.int ha), .val (.int j1), .val (.int va), .val (.int j2), .val (.ref b3), .val (.ref b13), .unset] [(.int ka)])) tt from XS.iload X21.here hx rfl (hb hby at_107) rfl zk
        suffices zk : Steps p.tables e below (T21.setTop (mkF m 111 #[.val (.int x0), .val (.int x1), .val (.int x2), .val (.int x3), .val (.int x4), .val (.int x5), .val (.int ka), .val (.int kb), .val (.int ha), .val (.int j1), .val (.int va), .val (.int j2), .val (.ref b3), .val (.ref b13), .unset] [(.int kb), (.int ka)])) tt from XS.iload X21.here hx rfl (hb hby at_109) rfl zk
        suffices zk : Steps p.tables e below (T21.setTop (mkF m 118 #[.val (.int x0), .val (.int x1), .val (.int x2), .val (.int x3), .val (.int x4), .val (.int x5), .val (.int ka), .val (.int kb), .val (.int ha), .val (.int j1), .val (.int va), .val (.int j2), .val (.ref b3), .val (.ref b13), .unset] [])) tt from XS.icmpYes X21.here hx rfl (pc0 := 111) (pc' := 118) rfl (hb hby at_111) rfl (flt hc111).2.1 (by decide) (by decide) zk
        suffices zk : Steps p.tables e below (T21.setTop (mkF m 119 #[.val (.int x0), .val (.int x1), .val (.int x2), .val (.int x3), .val (.int x4), .val (.int x5), .val (.int ka), .val (.int kb), .val (.int ha), .val (.int j1), .val (.int va), .val (.int j2), .val (.ref b3), .val (.ref b13), .unset] [(.int (1 : Int32))])) tt from XS.iconst X21.here hx rfl (hb hby at_118) zk
        suffices zk : Steps p.tables e below (T21.setTop (mkF m 121 #[.val (.int x0), .val (.int x1), .val (.int x2), .val (.int x3), .val (.int x4), .val (.int x5), .val (.int ka), .val (.int kb), .val (.int ha), .val (.int j1), .val (.int va), .val (.int j2), .val (.ref b3), .val (.ref b13), .val (.int (1 : Int32))] [])) tt from XS.istore X21.here hx rfl (hb hby at_119) rfl (l' := #[.val (.int x0), .val (.int x1), .val (.int x2), .val (.int x3), .val (.int x4), .val (.int x5), .val (.int ka), .val (.int kb), .val (.int ha), .val (.int j1), .val (.int va), .val (.int j2), .val (.ref b3), .val (.ref b13), .val (.int (1 : Int32))]) rfl zk
        suffices zk : Steps p.tables e below (T21.setTop (mkF m 175 #[.val (.int x0), .val (.int x1), .val (.int x2), .val (.int x3), .val (.int x4), .val (.int x5), .val (.int ka), .val (.int kb), .val (.int ha), .val (.int j1), .val (.int va), .val (.int j2), .val (.ref b3), .val (.ref b13), .val (.int (1 : Int32))] [])) tt from XS.goto X21.here hx rfl (pc0 := 121) (pc' := 175) rfl (hb hby at_121) (by decide) (by decide) zk
        exact zk
  refine Go.st dj22 ?_
  refine Go.st (T' := T21) (g' := (mkF m 177 #[.val (.int x0), .val (.int x1), .val (.int x2), .val (.int x3), .val (.int x4), .val (.int x5), .val (.int ka), .val (.int kb), .val (.int ha), .val (.int j1), .val (.int va), .val (.int j2), .val (.ref b3), .val (.ref b13), .val (.int j22)] [(.ref b3)])) (fun _ zk => XS.aload X21.here hx rfl (hb hby at_175) rfl rfl zk) ?_
  refine Go.st (T' := T21) (g' := (mkF m 179 #[.val (.int x0), .val (.int x1), .val (.int x2), .val (.int x3), .val (.int x4), .val (.int x5), .val (.int ka), .val (.int kb), .val (.int ha), .val (.int j1), .val (.int va), .val (.int j2), .val (.ref b3), .val (.ref b13), .val (.int j22)] [(.ref b13), (.ref b3)])) (fun _ zk => XS.aload X21.here hx rfl (hb hby at_177) rfl rfl zk) ?_
  have xt23 : Ext h12 h21 := ((E13.tr E14).thenK K21 (allS (P := fun x => h12.size ≤ x) (Nat.le_of_eq g13.symm) all0))
  have f24 := G12_0.ext xt23
  have f25 := G12_1.ext xt23
  have f26 := G12_2.ext xt23
  have f27 := ((((S4.keepO (A3.ext E4) (by decide) (w3 hw) K12).ext E13).ext E14).keepO (A13.ext E14) (by decide) (w3 hw) K21)
  have f28 := (S14.keepO (A13.ext E14) (by decide) (w3 hw) K21)
  have f30 := ((f15.ext E14).keep K21 (allS (Nat.le_trans Z0 (Nat.le_trans (Nat.le_trans (Nat.le_trans E3.1 E4.1) K12.1) (Nat.le_of_eq g13.symm))) all0))
  have f31 := ((((f8.keep K12).ext E13).ext E14).keep K21)
  refine Go.callV (y := (⟨"com/example/tokenweave/tokenweave/core/EntryName", "compareTo", "(Lcom/example/tokenweave/tokenweave/core/EntryName;)I"⟩ : MethodName)) (z := (⟨"com/example/tokenweave/tokenweave/core/EntryName", "compareTo", "(Lcom/example/tokenweave/tokenweave/core/EntryName;)I"⟩ : MethodName)) (C := "com/example/tokenweave/tokenweave/core/EntryName") (a := b3) X21 hx hZ hown e21 (w57 hw) (w58 hw) (w60 hw) (w59 hw) (w4 hw) (w61 hw) (notFace_of_selects (args := #[]) (mvT hZ (w60 hw))) (by decide) f31 (argsL := [(.ref b13)]) (rest := []) (W := 0) (rm_compareTo l Z a0 hw [] b3 b13 a4 a14 ka kb va j2 ha j1 c4_0 c4_1 c4_2 c4_3 c14_0 c14_1 c14_2 c14_3 zc h21 n0 (Nat.le_trans Z0 (Nat.le_trans (Nat.le_trans (Nat.le_trans (Nat.le_trans (Nat.le_trans E3.1 E4.1) K12.1) E13.1) E14.1) K21.1)) f30 f24 G21_0 f25 G21_1 f26 G21_2 f27 f28 CS hz qka qkb qha qj1 hX4 hX14) rfl (lenOf pd27 rfl) rfl (by rw [hml]; rfl) rfl (by show 2 * 0 + _ ≤ _; exact Nat.le_of_eq rfl) (by decide) (by decide) (by decide) (by decide) (hb hby at_179) ?_
  intro v29 T29 h29 L29 X29 e29 q29
  obtain ⟨r29, hv29, hr29, Nf29, hh29⟩ := q29
  subst hv29
  have E29 : T29.heap = h21 := e29.trans hh29
  have N29 := Fr.app N21 Nf29
  show Go p.tables e below _ T29 (mkF m 182 #[.val (.int x0), .val (.int x1), .val (.int x2), .val (.int x3), .val (.int x4), .val (.int x5), .val (.int ka), .val (.int kb), .val (.int ha), .val (.int j1), .val (.int va), .val (.int j2), .val (.ref b3), .val (.ref b13), .val (.int j22)] [(.int r29)])
  refine Go.callSt (y := (⟨"com/example/tokenweave/tokenweave/core/EntryNameCompareToPinLaw", "sign", "(I)I"⟩ : MethodName)) X29 hx hZ hown E29 (w66 hw) (w67 hw) (w7 hw) (w68 hw) (by decide) (argsL := [(.int r29)]) (rest := []) (W := 0) (rm_sign l Z a0 hw [] r29 h21 n0 (Nat.le_trans Z0 (Nat.le_trans (Nat.le_trans (Nat.le_trans (Nat.le_trans (Nat.le_trans E3.1 E4.1) K12.1) E13.1) E14.1) K21.1)) ) rfl (lenOf pd28 rfl) rfl (by rw [hml]; rfl) rfl (by show 2 * 0 + _ ≤ _; exact Nat.le_of_eq rfl) (by decide) (by decide) (by decide) (by decide) (hb hby at_182) ?_
  intro v32 T32 h32 L32 X32 e32 q32
  obtain ⟨r32, hv32, hr32, Nf32, hh32⟩ := q32
  subst hv32
  have E32 : T32.heap = h21 := e32.trans hh32
  have N32 := Fr.app N29 Nf32
  show Go p.tables e below _ T32 (mkF m 185 #[.val (.int x0), .val (.int x1), .val (.int x2), .val (.int x3), .val (.int x4), .val (.int x5), .val (.int ka), .val (.int kb), .val (.int ha), .val (.int j1), .val (.int va), .val (.int j2), .val (.ref b3), .val (.ref b13), .val (.int j22)] [(.int r32)])
  have hf1 : r32 = j22 := Int32.toInt_inj.mp (by have a1 := hr32; have a2 := hr29; have a3 := hj22; omega)
  refine Go.st (T' := T32) (g' := (mkF m 187 #[.val (.int x0), .val (.int x1), .val (.int x2), .val (.int x3), .val (.int x4), .val (.int x5), .val (.int ka), .val (.int kb), .val (.int ha), .val (.int j1), .val (.int va), .val (.int j2), .val (.ref b3), .val (.ref b13), .val (.int j22)] [(.int j22), (.int r32)])) (fun _ zk => XS.iload X32.here hx rfl (hb hby at_185) rfl zk) ?_
  refine Go.st (T' := T32) (g' := (mkF m 190 #[.val (.int x0), .val (.int x1), .val (.int x2), .val (.int x3), .val (.int x4), .val (.int x5), .val (.int ka), .val (.int kb), .val (.int ha), .val (.int j1), .val (.int va), .val (.int j2), .val (.ref b3), .val (.ref b13), .val (.int j22)] [])) (fun _ zk => XS.icmpNo X32.here hx rfl (hb hby at_187) rfl (teq (hf1 : r32 = j22)).2 zk) ?_
  refine Go.st (T' := T32) (g' := (mkF m 192 #[.val (.int x0), .val (.int x1), .val (.int x2), .val (.int x3), .val (.int x4), .val (.int x5), .val (.int ka), .val (.int kb), .val (.int ha), .val (.int j1), .val (.int va), .val (.int j2), .val (.ref b3), .val (.ref b13), .val (.int j22)] [(.ref b13)])) (fun _ zk => XS.aload X32.here hx rfl (hb hby at_190) rfl rfl zk) ?_
  refine Go.st (T' := T32) (g' := (mkF m 194 #[.val (.int x0), .val (.int x1), .val (.int x2), .val (.int x3), .val (.int x4), .val (.int x5), .val (.int ka), .val (.int kb), .val (.int ha), .val (.int j1), .val (.int va), .val (.int j2), .val (.ref b3), .val (.ref b13), .val (.int j22)] [(.ref b3), (.ref b13)])) (fun _ zk => XS.aload X32.here hx rfl (hb hby at_192) rfl rfl zk) ?_
  have f34 := (f17.keep K21)
  refine Go.callV (y := (⟨"com/example/tokenweave/tokenweave/core/EntryName", "compareTo", "(Lcom/example/tokenweave/tokenweave/core/EntryName;)I"⟩ : MethodName)) (z := (⟨"com/example/tokenweave/tokenweave/core/EntryName", "compareTo", "(Lcom/example/tokenweave/tokenweave/core/EntryName;)I"⟩ : MethodName)) (C := "com/example/tokenweave/tokenweave/core/EntryName") (a := b13) X32 hx hZ hown E32 (w57 hw) (w58 hw) (w60 hw) (w59 hw) (w4 hw) (w61 hw) (notFace_of_selects (args := #[]) (mvT hZ (w60 hw))) (by decide) f34 (argsL := [(.ref b3)]) (rest := []) (W := 0) (rm_compareTo l Z a0 hw [] b13 b3 a14 a4 kb ka j2 va j1 ha c14_0 c14_1 c14_2 c14_3 c4_0 c4_1 c4_2 c4_3 zc h21 n0 (Nat.le_trans Z0 (Nat.le_trans (Nat.le_trans (Nat.le_trans (Nat.le_trans (Nat.le_trans E3.1 E4.1) K12.1) E13.1) E14.1) K21.1)) f30 G21_0 f24 G21_1 f25 G21_2 f26 f28 f27 CS hz qkb qka qj1 qha hX14 hX4) rfl (lenOf pd27 rfl) rfl (by rw [hml]; rfl) rfl (by show 2 * 0 + _ ≤ _; exact Nat.le_of_eq rfl) (by decide) (by decide) (by decide) (by decide) (hb hby at_194) ?_
  intro v33 T33 h33 L33 X33 e33 q33
  obtain ⟨r33, hv33, hr33, Nf33, hh33⟩ := q33
  subst hv33
  have E33 : T33.heap = h21 := e33.trans hh33
  have N33 := Fr.app N32 Nf33
  show Go p.tables e below _ T33 (mkF m 197 #[.val (.int x0), .val (.int x1), .val (.int x2), .val (.int x3), .val (.int x4), .val (.int x5), .val (.int ka), .val (.int kb), .val (.int ha), .val (.int j1), .val (.int va), .val (.int j2), .val (.ref b3), .val (.ref b13), .val (.int j22)] [(.int r33)])
  refine Go.callSt (y := (⟨"com/example/tokenweave/tokenweave/core/EntryNameCompareToPinLaw", "sign", "(I)I"⟩ : MethodName)) X33 hx hZ hown E33 (w66 hw) (w67 hw) (w7 hw) (w68 hw) (by decide) (argsL := [(.int r33)]) (rest := []) (W := 0) (rm_sign l Z a0 hw [] r33 h21 n0 (Nat.le_trans Z0 (Nat.le_trans (Nat.le_trans (Nat.le_trans (Nat.le_trans (Nat.le_trans E3.1 E4.1) K12.1) E13.1) E14.1) K21.1)) ) rfl (lenOf pd28 rfl) rfl (by rw [hml]; rfl) rfl (by show 2 * 0 + _ ≤ _; exact Nat.le_of_eq rfl) (by decide) (by decide) (by decide) (by decide) (hb hby at_197) ?_
  intro v35 T35 h35 L35 X35 e35 q35
  obtain ⟨r35, hv35, hr35, Nf35, hh35⟩ := q35
  subst hv35
  have E35 : T35.heap = h21 := e35.trans hh35
  have N35 := Fr.app N33 Nf35
  show Go p.tables e below _ T35 (mkF m 200 #[.val (.int x0), .val (.int x1), .val (.int x2), .val (.int x3), .val (.int x4), .val (.int x5), .val (.int ka), .val (.int kb), .val (.int ha), .val (.int j1), .val (.int va), .val (.int j2), .val (.ref b3), .val (.ref b13), .val (.int j22)] [(.int r35)])
  have ng := c_ineg j22
  have nr := rng32 (-j22)
  have hf2 : r35 = -j22 := Int32.toInt_inj.mp (by have a1 := hr35; have a2 := hr33; have a3 := hj22; omega)
  refine Go.st (T' := T35) (g' := (mkF m 202 #[.val (.int x0), .val (.int x1), .val (.int x2), .val (.int x3), .val (.int x4), .val (.int x5), .val (.int ka), .val (.int kb), .val (.int ha), .val (.int j1), .val (.int va), .val (.int j2), .val (.ref b3), .val (.ref b13), .val (.int j22)] [(.int j22), (.int r35)])) (fun _ zk => XS.iload X35.here hx rfl (hb hby at_200) rfl zk) ?_
  refine Go.st (T' := T35) (g' := (mkF m 203 #[.val (.int x0), .val (.int x1), .val (.int x2), .val (.int x3), .val (.int x4), .val (.int x5), .val (.int ka), .val (.int kb), .val (.int ha), .val (.int j1), .val (.int va), .val (.int j2), .val (.ref b3), .val (.ref b13), .val (.int j22)] [(.int (-j22)), (.int r35)])) (fun _ zk => XS.ineg X35.here hx rfl (hb hby at_202) rfl zk) ?_
  refine Go.st (T' := T35) (g' := (mkF m 206 #[.val (.int x0), .val (.int x1), .val (.int x2), .val (.int x3), .val (.int x4), .val (.int x5), .val (.int ka), .val (.int kb), .val (.int ha), .val (.int j1), .val (.int va), .val (.int j2), .val (.ref b3), .val (.ref b13), .val (.int j22)] [])) (fun _ zk => XS.icmpNo X35.here hx rfl (hb hby at_203) rfl (teq (hf2 : r35 = (-j22))).2 zk) ?_
  refine Go.st (T' := T35) (g' := (mkF m 207 #[.val (.int x0), .val (.int x1), .val (.int x2), .val (.int x3), .val (.int x4), .val (.int x5), .val (.int ka), .val (.int kb), .val (.int ha), .val (.int j1), .val (.int va), .val (.int j2), .val (.ref b3), .val (.ref b13), .val (.int j22)] [(.int (1 : Int32))])) (fun _ zk => XS.iconst X35.here hx rfl (hb hby at_206) zk) ?_
  refine Go.st (T' := T35) (g' := (mkF m 211 #[.val (.int x0), .val (.int x1), .val (.int x2), .val (.int x3), .val (.int x4), .val (.int x5), .val (.int ka), .val (.int kb), .val (.int ha), .val (.int j1), .val (.int va), .val (.int j2), .val (.ref b3), .val (.ref b13), .val (.int j22)] [(.int (1 : Int32))])) (fun _ zk => XS.goto X35.here hx rfl (pc0 := 207) (pc' := 211) rfl (hb hby at_207) (by decide) (by decide) zk) ?_
  refine Go.retN X35 hx hlk hret rfl (by simp) (hb hby at_211) (by decide) (by decide) E35 ?_
  exact ⟨rfl, N35⟩
set_option maxRecDepth 65536 in
set_option maxHeartbeats 40000000 in
theorem comes_1 {Post : Tables → Env → Array Value → State → Outcome → State → Prop} (hpost : ∀ tb e args s v u, (limb_1_1.after args s (.returned v) u = true ∧ limb_1_2.after args s (.returned v) u = true ∧ True) → FrameEnd s (.returned v) u (Jvm.fieldLocs frame_1_writes args s ++ Jvm.arrayLocs frame_1_arrays args s ++ Jvm.staticLocs frame_1_statics s) 24 128 → Post tb e args s (.returned v) u) :
    ArmFor flags0 classFile x code maxLocals ret World_1 tables_1 room_1 Calls_1 rest_1 Pre_1 Post := by
  intro l hfl _ _ p e ha hc hk s m args below hf hA hF happ hP
  obtain ⟨hcalls, hrest, hpre⟩ := hP
  obtain ⟨-, -, -, hnamed, -, -, -, hat⟩ := (Spec.applies_iff hf).mp happ
  obtain ⟨hg, hn⟩ := and_e (Cond.before_iff.mp (show (Jvm.Cond.and given_1 narrow_1).before args s = true from hpre))
  obtain ⟨g0a, g0b⟩ := and_e hg
  obtain ⟨g1a, g1b⟩ := and_e g0b
  obtain ⟨g2a, g2b⟩ := and_e g1b
  obtain ⟨g3a, g3b⟩ := and_e g2b
  obtain ⟨g4a, g4b⟩ := and_e g3b
  obtain ⟨g5a, g5b⟩ := and_e g4b
  obtain ⟨w0', w1', w2', w3', w4', w5', rfl⟩ : ∃ w0' w1' w2' w3' w4' w5' : Value, args = #[w0', w1', w2', w3', w4', w5'] := by
    have hs : args.size = 6 := by simpa [Cond.value, given_1] using g0a
    obtain ⟨L⟩ := args
    match L, hs with
    | [w0', w1', w2', w3', w4', w5'], _ => exact ⟨w0', w1', w2', w3', w4', w5', rfl⟩
  have hw := fun d (hd : d ∈ tables_1) => atoms_spec (ws := Jvm.Cond.code x code maxLocals ret :: tables_1) hat d (List.mem_cons_of_mem _ hd)
  have hfit : Fit s := fun {y c} hc i hi => by
    obtain ⟨ha, rfl⟩ := Array.getElem?_eq_some_iff.mp hc
    have q := List.all_eq_true.mp ((Array.all_eq_true_iff_forall_mem.mp hF) _ (Array.getElem_mem ha)) i (List.mem_range.mpr hi)
    simpa [Array.getElem?_eq_getElem hi] using q
  obtain ⟨i0, ei0⟩ := is_v g1a
  obtain rfl : w0' = (.int i0) := Option.some.inj ei0
  obtain ⟨i1, ei1⟩ := is_v g2a
  obtain rfl : w1' = (.int i1) := Option.some.inj ei1
  obtain ⟨i2, ei2⟩ := is_v g3a
  obtain rfl : w2' = (.int i2) := Option.some.inj ei2
  obtain ⟨i3, ei3⟩ := is_v g4a
  obtain rfl : w3' = (.int i3) := Option.some.inj ei3
  obtain ⟨i4, ei4⟩ := is_v g5a
  obtain rfl : w4' = (.int i4) := Option.some.inj ei4
  obtain ⟨i5, ei5⟩ := is_v g5b
  obtain rfl : w5' = (.int i5) := Option.some.inj ei5
  have hrest' : rest_1_c.before _ s = true := hrest
  have hR := Cond.before_iff.mp hrest'
  obtain ⟨r0a, r0b⟩ := and_e hR
  obtain ⟨r1a, r1b⟩ := and_e r0b
  obtain ⟨r2a, r2b⟩ := and_e r1b
  obtain ⟨r3a, r3b⟩ := and_e r2b
  obtain ⟨r4a, r4b⟩ := and_e r3b
  obtain ⟨r5a, r5b⟩ := and_e r4b
  obtain ⟨r6a, r6b⟩ := and_e r5b
  obtain ⟨r7a, r7b⟩ := and_e r6b
  obtain ⟨r8a, r8b⟩ := and_e r7b
  obtain ⟨zc, ezc⟩ := is_v r1a
  have CS : Sta s s.heap "java/lang/String" "COMPACT_STRINGS" "Z" (.int zc) := Sta.start ezc (Or.inl (Cond.before_iff.mpr r0a))
  have hz : ¬ zc = 0 := fun q => by
    have q1 := not_v r2a
    rw [eq_i ezc (Term.int_eval (0)) (by rw [q])] at q1
    cases q1
  obtain ⟨fm, efm, rf⟩ := isR_v r8a
  have FM : Sta s s.heap "jdk/internal/util/Preconditions" "SIOOBE_FORMATTER" "Ljava/util/function/BiFunction;" fm := Sta.start efm (Or.inl (Cond.before_iff.mpr r7a))
  obtain ⟨n, o, h1, h2, h3, _, L, rfl, ⟨rfl, N⟩, hq⟩ := rm_law l s _ hw tables_1 i0 i1 i2 i3 i4 i5 zc s.heap s.heap.size (Nat.le_refl _) (Old.start s) CS hz p e ha hc hk s m _ below hf ((Spec.applies_iff_loose hf).mp happ).1 ⟨rfl, State.Warmed39.refl s, rfl⟩ trivial
  exact ⟨n, _, h1, h2, h3, hpost _ _ _ _ _ _ ⟨Cond.after_iff.mpr rfl, Cond.after_iff.mpr (eq_i res_at (Term.int_eval (1)) rfl), trivial⟩ ⟨hq.1, hq.2.1, (hq.2.2.sift fun y hy => Or.inr (N y hy)).mono (by decide) (by decide)⟩⟩
theorem main_1_1 : Claimed_1_1 := comes_1 fun _ _ _ _ _ _ h hF => ⟨h.1, hF⟩
theorem main_1_2 : Claimed_1_2 := comes_1 fun _ _ _ _ _ _ h hF => ⟨h.2.1, hF⟩
end Jvm.Pilot.@@N@@
namespace Jvm.Pilot.@@N@@
open Jvm Jvm.ClassFile Sem Op Lib Jvm.Free Jvm.Stand Jvm.Pilot.@@N@@.Jvm.D
/-! MADE BY PROGRAM (witnessworld.py) out of the Statement's table words and the real class files: 25 classes; the members and pool entries that the words name. The judged class is class 1, her method 4. -/
namespace start1
open Jvm.ClassFile
def u (s : String) : CpInfo := .utf8 (stringToUtf16 s)
/-- a pool by its gaps: so many unusable entries, then the entry; so many at the end -/
def gap : Nat → List CpInfo → List CpInfo
  | 0, r => r
  | n + 1, r => .unusable :: gap n r
def poolList (es : List (Nat × CpInfo)) (last : Nat) : List CpInfo := es.foldr (fun e r => gap e.1 (e.2 :: r)) (gap last [])
def pool (es : List (Nat × CpInfo)) (last : Nat) : Array CpInfo := ⟨poolList es last⟩
def fileOf (pool : Array CpInfo) (this : Nat) (attrs : Array Attribute := #[]) (ms : Array MethodInfo := #[]) (fl : Nat := 33) (sup : Nat := 0) (ifs : Array Nat := #[]) (fds : Array FieldInfo := #[]) : ClassFile where
  minorVersion := 0
  majorVersion := 65
  constantPool := pool
  accessFlags := fl
  thisClass := this
  superClass := sup
  interfaces := ifs
  fields := fds
  methods := ms
  attributes := attrs
def plain (name : String) (sup : Option ClassId) : Class where
  name := name
  kind := .ordinary
  loader := none
  accessFlags := 33
  super := sup
  interfaces := #[]
  cf := none
  fields := #[]
  methods := #[]
  instanceTypes := #[]
  staticTypes := #[]
  resolved := #[]
  callSites := []
  init := .initialized
  statics := none
  mirror := none

def pool0 : Array CpInfo := pool [(5, u "<init>"), (0, u "()V"), (1, .class_ 10), (1, u "java/lang/Object")] 113

def k0c0 : Code := { maxStack := 0, maxLocals := 1, code := object_method_1_code, exceptionTable := #[], attributes := #[] }
def k0m0 : Method := { name := "<init>", desc := "()V", sig := { parameters := [], returnType := none }, accessFlags := 1, code := some k0c0 }
/-- java/lang/Object -/
def k0 : Class := { plain "java/lang/Object" none with
  accessFlags := 33
  interfaces := #[]
  cf := some (fileOf pool0 8 #[] #[{ accessFlags := 1, nameIndex := 5, descriptorIndex := 6, attributes := #[] }] 33 0 #[] #[])
  fields := #[]
  methods := #[k0m0]
  instanceTypes := #[]
  staticTypes := #[]
  resolved := Array.replicate 124 none
  statics := none }

def pool1 : Array CpInfo := pool [(2, .class_ 4), (1, u "java/lang/Object"), (0, u "<init>"), (0, u "()V"), (0, .methodref 8 9), (0, .class_ 10), (0, .nameAndType 11 12), (0, u "com/example/tokenweave/tokenweave/core/EntryNameCompareToPinLaw"), (0, u "hex"), (0, u "(I)C"), (0, .class_ 14), (0, u "java/lang/String"), (0, .methodref 13 16), (0, .nameAndType 5 17), (0, u "([C)V"), (0, .integer 65535), (0, .integer 2147483647), (0, .class_ 21), (0, u "com/example/tokenweave/tokenweave/core/EntryName"), (0, .methodref 8 23), (0, .nameAndType 24 25), (0, u "hashOf"), (0, u "(I)Ljava/lang/String;"), (0, .methodref 20 27), (0, .nameAndType 5 28), (0, u "(BLjava/lang/String;I)V"), (0, .methodref 20 30), (0, .nameAndType 31 32), (0, u "compareTo"), (0, u "(Lcom/example/tokenweave/tokenweave/core/EntryName;)I"), (0, .methodref 8 34), (0, .nameAndType 35 36), (0, u "sign"), (0, u "(I)I"), (3, u "law"), (0, u "(IIIIII)Z")] 2

def k1m0 : Method := { name := "<init>", desc := "()V", sig := { parameters := [], returnType := none }, accessFlags := 1, code := none }
def k1c1 : Code := { maxStack := 3, maxLocals := 1, code := method_2_code, exceptionTable := #[], attributes := #[] }
def k1m1 : Method := { name := "hex", desc := "(I)C", sig := { parameters := [.int], returnType := some .char }, accessFlags := 10, code := some k1c1 }
def k1c2 : Code := { maxStack := 4, maxLocals := 2, code := method_3_code, exceptionTable := #[], attributes := #[] }
def k1m2 : Method := { name := "hashOf", desc := "(I)Ljava/lang/String;", sig := { parameters := [.int], returnType := some (.object "java/lang/String") }, accessFlags := 10, code := some k1c2 }
def k1c3 : Code := { maxStack := 1, maxLocals := 1, code := method_4_code, exceptionTable := #[], attributes := #[] }
def k1m3 : Method := { name := "sign", desc := "(I)I", sig := { parameters := [.int], returnType := some .int }, accessFlags := 10, code := some k1c3 }
def k1c4 : Code := { maxStack := 5, maxLocals := 15, code := code, exceptionTable := #[], attributes := #[] }
def k1m4 : Method := { name := "law", desc := "(IIIIII)Z", sig := { parameters := [.int, .int, .int, .int, .int, .int], returnType := some .boolean }, accessFlags := 9, code := some k1c4 }
/-- com/example/tokenweave/tokenweave/core/EntryNameCompareToPinLaw -/
def k1 : Class := { plain "com/example/tokenweave/tokenweave/core/EntryNameCompareToPinLaw" (some 0) with
  accessFlags := 49
  interfaces := #[]
  cf := some (fileOf pool1 8 #[] #[{ accessFlags := 1, nameIndex := 5, descriptorIndex := 6, attributes := #[] }, { accessFlags := 10, nameIndex := 11, descriptorIndex := 12, attributes := #[] }, { accessFlags := 10, nameIndex := 24, descriptorIndex := 25, attributes := #[] }, { accessFlags := 10, nameIndex := 35, descriptorIndex := 36, attributes := #[] }, { accessFlags := 9, nameIndex := 40, descriptorIndex := 41, attributes := #[] }] 49 2 #[] #[])
  fields := #[]
  methods := #[k1m0, k1m1, k1m2, k1m3, k1m4]
  instanceTypes := #[]
  staticTypes := #[]
  resolved := Array.replicate 44 none
  statics := none }

def pool2 : Array CpInfo := pool [(1, .methodref 2 3), (0, .class_ 4), (0, .nameAndType 5 6), (0, u "java/lang/Object"), (0, u "<init>"), (0, u "()V"), (0, .class_ 8), (0, u "java/lang/Record")] 13

def k2c0 : Code := { maxStack := 1, maxLocals := 1, code := jdk_30_method_1_code, exceptionTable := #[], attributes := #[] }
def k2m0 : Method := { name := "<init>", desc := "()V", sig := { parameters := [], returnType := none }, accessFlags := 4, code := some k2c0 }
/-- java/lang/Record -/
def k2 : Class := { plain "java/lang/Record" (some 0) with
  accessFlags := 1057
  interfaces := #[]
  cf := some (fileOf pool2 7 #[] #[{ accessFlags := 4, nameIndex := 5, descriptorIndex := 6, attributes := #[] }] 1057 2 #[] #[])
  fields := #[]
  methods := #[k2m0]
  instanceTypes := #[]
  staticTypes := #[]
  resolved := Array.replicate 22 none
  statics := none }

def pool3 : Array CpInfo := pool [(1, .class_ 2), (0, u "java/lang/Comparable"), (0, .class_ 4), (0, u "java/lang/Object")] 7

/-- java/lang/Comparable -/
def k3 : Class := { plain "java/lang/Comparable" (some 0) with
  accessFlags := 1537
  interfaces := #[]
  cf := some (fileOf pool3 1 #[] #[] 1537 3 #[] #[])
  fields := #[]
  methods := #[]
  instanceTypes := #[]
  staticTypes := #[]
  resolved := Array.replicate 12 none
  statics := none }

def pool4 : Array CpInfo := pool [(1, .methodref 2 3), (0, .class_ 4), (0, .nameAndType 5 6), (0, u "java/lang/Record"), (0, u "<init>"), (0, u "()V"), (0, .fieldref 8 9), (0, .class_ 10), (0, .nameAndType 11 12), (0, u "com/example/tokenweave/tokenweave/core/EntryName"), (0, u "kind"), (0, u "B"), (0, .fieldref 8 14), (0, .nameAndType 15 16), (0, u "hash"), (0, u "Ljava/lang/String;"), (0, .fieldref 8 18), (0, .nameAndType 19 20), (0, u "version"), (0, u "I"), (5, u "(BLjava/lang/String;I)V"), (48, .methodref 76 77), (0, .class_ 78), (0, .nameAndType 79 80), (0, u "java/lang/Byte"), (0, u "compare"), (0, u "(BB)I"), (0, .methodref 82 83), (0, .class_ 84), (0, .nameAndType 85 86), (0, u "java/lang/String"), (0, u "compareTo"), (0, u "(Ljava/lang/String;)I"), (0, .methodref 88 89), (0, .class_ 90), (0, .nameAndType 79 91), (0, u "java/lang/Integer"), (0, u "(II)I"), (2, u "DIGEST"), (0, u "Ljava/lang/ThreadLocal;"), (23, u "(Lcom/example/tokenweave/tokenweave/core/EntryName;)I"), (33, .class_ 154), (0, u "java/lang/Comparable"), (0, u "DEFINITION"), (2, u "INSTANCE"), (1, u "BYTES")] 55

def k4c0 : Code := { maxStack := 2, maxLocals := 4, code := prog_6_method_1_code, exceptionTable := #[], attributes := #[] }
def k4m0 : Method := { name := "<init>", desc := "(BLjava/lang/String;I)V", sig := { parameters := [.byte, (.object "java/lang/String"), .int], returnType := none }, accessFlags := 0, code := some k4c0 }
def k4c1 : Code := { maxStack := 2, maxLocals := 3, code := prog_6_method_7_code, exceptionTable := #[], attributes := #[] }
def k4m1 : Method := { name := "compareTo", desc := "(Lcom/example/tokenweave/tokenweave/core/EntryName;)I", sig := { parameters := [(.object "com/example/tokenweave/tokenweave/core/EntryName")], returnType := some .int }, accessFlags := 1, code := some k4c1 }
/-- com/example/tokenweave/tokenweave/core/EntryName -/
def k4 : Class := { plain "com/example/tokenweave/tokenweave/core/EntryName" (some 2) with
  accessFlags := 48
  interfaces := #[3]
  cf := some (fileOf pool4 8 #[] #[{ accessFlags := 0, nameIndex := 5, descriptorIndex := 26, attributes := #[] }, { accessFlags := 1, nameIndex := 85, descriptorIndex := 119, attributes := #[] }] 48 2 #[153] #[{ accessFlags := 18, nameIndex := 11, descriptorIndex := 12, attributes := #[] }, { accessFlags := 18, nameIndex := 15, descriptorIndex := 16, attributes := #[] }, { accessFlags := 18, nameIndex := 19, descriptorIndex := 20, attributes := #[] }, { accessFlags := 24, nameIndex := 155, descriptorIndex := 12, attributes := #[] }, { accessFlags := 24, nameIndex := 158, descriptorIndex := 12, attributes := #[] }, { accessFlags := 24, nameIndex := 160, descriptorIndex := 20, attributes := #[] }, { accessFlags := 26, nameIndex := 94, descriptorIndex := 95, attributes := #[] }])
  fields := #[{ name := "kind", type := .byte, accessFlags := 18, slot := 0, constantValue := 0 }, { name := "hash", type := (.object "java/lang/String"), accessFlags := 18, slot := 1, constantValue := 0 }, { name := "version", type := .int, accessFlags := 18, slot := 2, constantValue := 0 }, { name := "DEFINITION", type := .byte, accessFlags := 24, slot := 0, constantValue := 0 }, { name := "INSTANCE", type := .byte, accessFlags := 24, slot := 1, constantValue := 0 }, { name := "BYTES", type := .int, accessFlags := 24, slot := 2, constantValue := 0 }, { name := "DIGEST", type := (.object "java/lang/ThreadLocal"), accessFlags := 26, slot := 3, constantValue := 0 }]
  methods := #[k4m0, k4m1]
  instanceTypes := #[.byte, (.object "java/lang/String"), .int]
  staticTypes := #[.byte, .byte, .int, (.object "java/lang/ThreadLocal")]
  resolved := Array.replicate 216 none
  statics := none }

def pool5 : Array CpInfo := pool [(1, .class_ 2), (0, u "java/io/Serializable"), (0, .class_ 4), (0, u "java/lang/Object")] 2

/-- java/io/Serializable -/
def k5 : Class := { plain "java/io/Serializable" (some 0) with
  accessFlags := 1537
  interfaces := #[]
  cf := some (fileOf pool5 1 #[] #[] 1537 3 #[] #[])
  fields := #[]
  methods := #[]
  instanceTypes := #[]
  staticTypes := #[]
  resolved := Array.replicate 7 none
  statics := none }

def pool6 : Array CpInfo := pool [(2, .class_ 4), (1, u "java/lang/CharSequence"), (42, .class_ 48), (0, u "java/lang/CharSequence$1CodePointIterator"), (10, .class_ 60), (0, u "java/lang/CharSequence$1CharIterator"), (5, .class_ 67), (0, u "java/lang/Object")] 63

/-- java/lang/CharSequence -/
def k6 : Class := { plain "java/lang/CharSequence" (some 0) with
  accessFlags := 1537
  interfaces := #[]
  cf := some (fileOf pool6 2 #[.nestMembers #[47, 59]] #[] 1537 66 #[] #[])
  fields := #[]
  methods := #[]
  instanceTypes := #[]
  staticTypes := #[]
  resolved := Array.replicate 131 none
  statics := none }

def pool7 : Array CpInfo := pool [(1, .class_ 2), (0, u "java/lang/constant/Constable"), (0, .class_ 4), (0, u "java/lang/Object")] 6

/-- java/lang/constant/Constable -/
def k7 : Class := { plain "java/lang/constant/Constable" (some 0) with
  accessFlags := 1537
  interfaces := #[]
  cf := some (fileOf pool7 1 #[] #[] 1537 3 #[] #[])
  fields := #[]
  methods := #[]
  instanceTypes := #[]
  staticTypes := #[]
  resolved := Array.replicate 11 none
  statics := none }

def pool8 : Array CpInfo := pool [(1, .class_ 2), (0, u "java/lang/constant/ConstantDesc"), (0, .class_ 4), (0, u "java/lang/Object")] 32

/-- java/lang/constant/ConstantDesc -/
def k8 : Class := { plain "java/lang/constant/ConstantDesc" (some 0) with
  accessFlags := 1537
  interfaces := #[]
  cf := some (fileOf pool8 1 #[] #[] 1537 3 #[] #[])
  fields := #[]
  methods := #[]
  instanceTypes := #[]
  staticTypes := #[]
  resolved := Array.replicate 37 none
  statics := none }

def pool9 : Array CpInfo := pool [(1, .methodref 2 3), (0, .class_ 4), (0, .nameAndType 5 6), (0, u "java/lang/Object"), (0, u "<init>"), (0, u "()V"), (2, .fieldref 10 11), (0, .class_ 12), (0, .nameAndType 13 14), (0, u "java/lang/String"), (0, u "value"), (0, u "[B"), (0, .fieldref 10 16), (0, .nameAndType 17 18), (0, u "coder"), (0, u "B"), (2, u "hash"), (0, u "I"), (2, u "hashIsZero"), (0, u "Z"), (0, .methodref 10 28), (0, .nameAndType 5 29), (0, u "([CIILjava/lang/Void;)V"), (8, .fieldref 10 39), (0, .nameAndType 40 26), (0, u "COMPACT_STRINGS"), (1, .class_ 44), (1, u "java/lang/StringUTF16"), (0, u "compress"), (1, .methodref 42 48), (0, .nameAndType 49 50), (0, u "coderFromArrayLen"), (0, u "([BI)B"), (56, .class_ 109), (1, u "java/lang/StringLatin1"), (67, .methodref 42 178), (0, .nameAndType 45 179), (0, u "([CII)[B"), (155, .methodref 10 336), (0, .nameAndType 17 337), (0, u "()B"), (237, .class_ 576), (0, u "java/lang/CharSequence"), (9, .methodref 107 587), (0, .nameAndType 588 589), (0, u "compareTo"), (0, u "([B[B)I"), (9, u "CASE_INSENSITIVE_ORDER"), (0, u "Ljava/util/Comparator;"), (112, u "(Ljava/lang/String;)I"), (296, u "([C)V"), (90, u "serialPersistentFields"), (0, u "[Ljava/io/ObjectStreamField;"), (0, .class_ 1104), (0, u "java/lang/String$CaseInsensitiveComparator"), (1, .class_ 1107), (0, u "java/io/Serializable"), (0, .class_ 1109), (0, u "java/lang/Comparable"), (0, .class_ 1111), (0, u "java/lang/constant/Constable"), (0, .class_ 1113), (0, u "java/lang/constant/ConstantDesc"), (2, u "serialVersionUID"), (0, u "J"), (3, u "REPL"), (0, u "C"), (2, u "LATIN1"), (1, u "UTF16")] 323

def k9m0 : Method := { name := "<init>", desc := "()V", sig := { parameters := [], returnType := none }, accessFlags := 1, code := none }
def k9c1 : Code := { maxStack := 5, maxLocals := 2, code := jdk_42_method_3_code, exceptionTable := #[], attributes := #[] }
def k9m1 : Method := { name := "<init>", desc := "([C)V", sig := { parameters := [(.array .char)], returnType := none }, accessFlags := 1, code := some k9c1 }
def k9c2 : Code := { maxStack := 2, maxLocals := 5, code := jdk_42_method_71_code, exceptionTable := #[], attributes := #[] }
def k9m2 : Method := { name := "compareTo", desc := "(Ljava/lang/String;)I", sig := { parameters := [(.object "java/lang/String")], returnType := some .int }, accessFlags := 1, code := some k9c2 }
def k9c3 : Code := { maxStack := 4, maxLocals := 6, code := jdk_42_method_149_code, exceptionTable := #[], attributes := #[] }
def k9m3 : Method := { name := "<init>", desc := "([CIILjava/lang/Void;)V", sig := { parameters := [(.array .char), .int, .int, (.object "java/lang/Void")], returnType := none }, accessFlags := 2, code := some k9c3 }
def k9c4 : Code := { maxStack := 1, maxLocals := 1, code := jdk_42_method_152_code, exceptionTable := #[], attributes := #[] }
def k9m4 : Method := { name := "coder", desc := "()B", sig := { parameters := [], returnType := some .byte }, accessFlags := 0, code := some k9c4 }
/-- java/lang/String -/
def k9 : Class := { plain "java/lang/String" (some 0) with
  accessFlags := 49
  interfaces := #[5, 3, 6, 7, 8]
  cf := some (fileOf pool9 10 #[.nestMembers #[1103]] #[{ accessFlags := 1, nameIndex := 5, descriptorIndex := 6, attributes := #[] }, { accessFlags := 1, nameIndex := 5, descriptorIndex := 1010, attributes := #[] }, { accessFlags := 1, nameIndex := 588, descriptorIndex := 713, attributes := #[] }, { accessFlags := 2, nameIndex := 5, descriptorIndex := 29, attributes := #[] }, { accessFlags := 0, nameIndex := 17, descriptorIndex := 337, attributes := #[] }] 49 2 #[1106, 1108, 575, 1110, 1112] #[{ accessFlags := 18, nameIndex := 13, descriptorIndex := 14, attributes := #[] }, { accessFlags := 18, nameIndex := 17, descriptorIndex := 18, attributes := #[] }, { accessFlags := 2, nameIndex := 21, descriptorIndex := 22, attributes := #[] }, { accessFlags := 2, nameIndex := 25, descriptorIndex := 26, attributes := #[] }, { accessFlags := 26, nameIndex := 1116, descriptorIndex := 1117, attributes := #[] }, { accessFlags := 24, nameIndex := 40, descriptorIndex := 26, attributes := #[] }, { accessFlags := 26, nameIndex := 1101, descriptorIndex := 1102, attributes := #[] }, { accessFlags := 26, nameIndex := 1121, descriptorIndex := 1122, attributes := #[] }, { accessFlags := 25, nameIndex := 599, descriptorIndex := 600, attributes := #[] }, { accessFlags := 24, nameIndex := 1125, descriptorIndex := 18, attributes := #[] }, { accessFlags := 24, nameIndex := 1127, descriptorIndex := 18, attributes := #[] }])
  fields := #[{ name := "value", type := (.array .byte), accessFlags := 18, slot := 0, constantValue := 0 }, { name := "coder", type := .byte, accessFlags := 18, slot := 1, constantValue := 0 }, { name := "hash", type := .int, accessFlags := 2, slot := 2, constantValue := 0 }, { name := "hashIsZero", type := .boolean, accessFlags := 2, slot := 3, constantValue := 0 }, { name := "serialVersionUID", type := .long, accessFlags := 26, slot := 0, constantValue := 0 }, { name := "COMPACT_STRINGS", type := .boolean, accessFlags := 24, slot := 1, constantValue := 0 }, { name := "serialPersistentFields", type := (.array (.object "java/io/ObjectStreamField")), accessFlags := 26, slot := 2, constantValue := 0 }, { name := "REPL", type := .char, accessFlags := 26, slot := 3, constantValue := 0 }, { name := "CASE_INSENSITIVE_ORDER", type := (.object "java/util/Comparator"), accessFlags := 25, slot := 4, constantValue := 0 }, { name := "LATIN1", type := .byte, accessFlags := 24, slot := 5, constantValue := 0 }, { name := "UTF16", type := .byte, accessFlags := 24, slot := 6, constantValue := 0 }]
  methods := #[k9m0, k9m1, k9m2, k9m3, k9m4]
  instanceTypes := #[(.array .byte), .byte, .int, .boolean]
  staticTypes := #[.long, .boolean, (.array (.object "java/io/ObjectStreamField")), .char, (.object "java/util/Comparator"), .byte, .byte]
  resolved := Array.replicate 1451 none
  statics := some 0 }

def pool10 : Array CpInfo := pool [(6, .class_ 8), (1, u "java/lang/Object"), (0, u "<init>"), (0, u "()V"), (1, .class_ 14), (1, u "java/lang/StringUTF16"), (31, u "$assertionsDisabled"), (0, u "Z"), (13, u "HI_BYTE_SHIFT"), (0, u "I"), (2, u "LO_BYTE_SHIFT"), (49, .methodref 12 116), (0, .nameAndType 117 118), (0, u "compress"), (0, u "([CI[BII)I"), (3, u "([CII)[B"), (138, u "coderFromArrayLen"), (0, u "([BI)B"), (106, .class_ 371), (1, u "java/lang/StringUTF16$LinesSpliterator"), (58, u "MAX_LENGTH"), (196, .class_ 628), (0, u "java/lang/StringUTF16$CodePointsSpliterator"), (0, .class_ 630), (0, u "java/lang/StringUTF16$CharsSpliterator")] 4

def k10m0 : Method := { name := "<init>", desc := "()V", sig := { parameters := [], returnType := none }, accessFlags := 0, code := none }
def k10c1 : Code := { maxStack := 2, maxLocals := 2, code := jdk_52_method_15_code, exceptionTable := #[], attributes := #[] }
def k10m1 : Method := { name := "coderFromArrayLen", desc := "([BI)B", sig := { parameters := [(.array .byte), .int], returnType := some .byte }, accessFlags := 8, code := some k10c1 }
def k10c2 : Code := { maxStack := 5, maxLocals := 6, code := jdk_52_method_16_code, exceptionTable := #[], attributes := #[] }
def k10m2 : Method := { name := "compress", desc := "([CII)[B", sig := { parameters := [(.array .char), .int, .int], returnType := some (.array .byte) }, accessFlags := 9, code := some k10c2 }
def k10c3 : Code := { maxStack := 3, maxLocals := 7, code := jdk_52_method_21_code, exceptionTable := #[], attributes := #[] }
def k10m3 : Method := { name := "compress", desc := "([CI[BII)I", sig := { parameters := [(.array .char), .int, (.array .byte), .int, .int], returnType := some .int }, accessFlags := 9, code := some k10c3 }
/-- java/lang/StringUTF16 -/
def k10 : Class := { plain "java/lang/StringUTF16" (some 0) with
  accessFlags := 48
  interfaces := #[]
  cf := some (fileOf pool10 12 #[.nestMembers #[627, 629, 369]] #[{ accessFlags := 0, nameIndex := 9, descriptorIndex := 10, attributes := #[] }, { accessFlags := 8, nameIndex := 261, descriptorIndex := 262, attributes := #[] }, { accessFlags := 9, nameIndex := 117, descriptorIndex := 122, attributes := #[] }, { accessFlags := 9, nameIndex := 117, descriptorIndex := 118, attributes := #[] }] 48 6 #[] #[{ accessFlags := 26, nameIndex := 61, descriptorIndex := 62, attributes := #[] }, { accessFlags := 26, nameIndex := 65, descriptorIndex := 62, attributes := #[] }, { accessFlags := 24, nameIndex := 430, descriptorIndex := 62, attributes := #[] }, { accessFlags := 4120, nameIndex := 46, descriptorIndex := 47, attributes := #[] }])
  fields := #[{ name := "HI_BYTE_SHIFT", type := .int, accessFlags := 26, slot := 0, constantValue := 0 }, { name := "LO_BYTE_SHIFT", type := .int, accessFlags := 26, slot := 1, constantValue := 0 }, { name := "MAX_LENGTH", type := .int, accessFlags := 24, slot := 2, constantValue := 0 }, { name := "$assertionsDisabled", type := .boolean, accessFlags := 4120, slot := 3, constantValue := 0 }]
  methods := #[k10m0, k10m1, k10m2, k10m3]
  instanceTypes := #[]
  staticTypes := #[.int, .int, .int, .boolean]
  resolved := Array.replicate 635 none
  statics := none }

def pool11 : Array CpInfo := pool [(2, .class_ 4), (1, u "java/lang/Object"), (0, u "<init>"), (0, u "()V"), (1, .class_ 10), (1, u "java/lang/Number"), (2, .class_ 14), (0, u "java/io/Serializable"), (0, u "serialVersionUID"), (0, u "J")] 20

def k11m0 : Method := { name := "<init>", desc := "()V", sig := { parameters := [], returnType := none }, accessFlags := 1, code := none }
/-- java/lang/Number -/
def k11 : Class := { plain "java/lang/Number" (some 0) with
  accessFlags := 1057
  interfaces := #[5]
  cf := some (fileOf pool11 8 #[] #[{ accessFlags := 1, nameIndex := 5, descriptorIndex := 6, attributes := #[] }] 1057 2 #[13] #[{ accessFlags := 26, nameIndex := 15, descriptorIndex := 16, attributes := #[] }])
  fields := #[{ name := "serialVersionUID", type := .long, accessFlags := 26, slot := 0, constantValue := 0 }]
  methods := #[k11m0]
  instanceTypes := #[]
  staticTypes := #[.long]
  resolved := Array.replicate 37 none
  statics := none }

def pool12 : Array CpInfo := pool [(1, .class_ 2), (0, u "java/lang/Byte"), (41, .class_ 46), (1, u "java/lang/Byte$ByteCache"), (51, .class_ 99), (0, u "java/lang/Number"), (2, u "value"), (0, u "B"), (10, u "compare"), (0, u "(BB)I"), (19, u "TYPE"), (0, u "Ljava/lang/Class;"), (0, .class_ 138), (0, u "java/lang/Comparable"), (0, .class_ 140), (0, u "java/lang/constant/Constable"), (0, u "MIN_VALUE"), (2, u "MAX_VALUE"), (3, u "SIZE"), (0, u "I"), (1, u "BYTES"), (1, u "serialVersionUID"), (0, u "J")] 58

def k12c0 : Code := { maxStack := 2, maxLocals := 2, code := jdk_2056_method_22_code, exceptionTable := #[], attributes := #[] }
def k12m0 : Method := { name := "compare", desc := "(BB)I", sig := { parameters := [.byte, .byte], returnType := some .int }, accessFlags := 9, code := some k12c0 }
/-- java/lang/Byte -/
def k12 : Class := { plain "java/lang/Byte" (some 11) with
  accessFlags := 49
  interfaces := #[3, 7]
  cf := some (fileOf pool12 1 #[.nestMembers #[44]] #[{ accessFlags := 9, nameIndex := 114, descriptorIndex := 115, attributes := #[] }] 49 98 #[137, 139] #[{ accessFlags := 25, nameIndex := 141, descriptorIndex := 103, attributes := #[] }, { accessFlags := 25, nameIndex := 144, descriptorIndex := 103, attributes := #[] }, { accessFlags := 25, nameIndex := 135, descriptorIndex := 136, attributes := #[] }, { accessFlags := 18, nameIndex := 102, descriptorIndex := 103, attributes := #[] }, { accessFlags := 25, nameIndex := 148, descriptorIndex := 149, attributes := #[] }, { accessFlags := 25, nameIndex := 151, descriptorIndex := 149, attributes := #[] }, { accessFlags := 26, nameIndex := 153, descriptorIndex := 154, attributes := #[] }])
  fields := #[{ name := "MIN_VALUE", type := .byte, accessFlags := 25, slot := 0, constantValue := 0 }, { name := "MAX_VALUE", type := .byte, accessFlags := 25, slot := 1, constantValue := 0 }, { name := "TYPE", type := (.object "java/lang/Class"), accessFlags := 25, slot := 2, constantValue := 0 }, { name := "value", type := .byte, accessFlags := 18, slot := 0, constantValue := 0 }, { name := "SIZE", type := .int, accessFlags := 25, slot := 3, constantValue := 0 }, { name := "BYTES", type := .int, accessFlags := 25, slot := 4, constantValue := 0 }, { name := "serialVersionUID", type := .long, accessFlags := 26, slot := 5, constantValue := 0 }]
  methods := #[k12m0]
  instanceTypes := #[.byte]
  staticTypes := #[.byte, .byte, (.object "java/lang/Class"), .int, .int, .long]
  resolved := Array.replicate 213 none
  statics := none }

def pool13 : Array CpInfo := pool [(4, .class_ 6), (1, u "java/lang/Object"), (0, u "<init>"), (0, u "()V"), (5, .class_ 16), (1, u "java/lang/StringLatin1"), (17, .methodref 14 35), (0, .nameAndType 36 37), (0, u "compareTo"), (0, u "([B[BII)I"), (0, .methodref 39 40), (0, .class_ 41), (0, .nameAndType 42 43), (0, u "java/lang/Math"), (0, u "min"), (0, u "(II)I"), (0, .methodref 45 46), (0, .class_ 47), (0, .nameAndType 48 49), (0, u "jdk/internal/util/ArraysSupport"), (0, u "mismatch"), (0, u "([B[BI)I"), (0, .methodref 14 51), (0, .nameAndType 52 53), (0, u "getChar"), (0, u "([BI)C"), (67, u "$assertionsDisabled"), (0, u "Z"), (98, .class_ 223), (1, u "java/lang/StringLatin1$LinesSpliterator"), (63, u "([B[B)I"), (102, .class_ 391), (0, u "java/lang/StringLatin1$CharsSpliterator")] 3

def k13m0 : Method := { name := "<init>", desc := "()V", sig := { parameters := [], returnType := none }, accessFlags := 0, code := none }
def k13c1 : Code := { maxStack := 4, maxLocals := 4, code := jdk_43_method_14_code, exceptionTable := #[], attributes := #[] }
def k13m1 : Method := { name := "compareTo", desc := "([B[B)I", sig := { parameters := [(.array .byte), (.array .byte)], returnType := some .int }, accessFlags := 9, code := some k13c1 }
def k13c2 : Code := { maxStack := 3, maxLocals := 6, code := jdk_43_method_15_code, exceptionTable := #[], attributes := #[] }
def k13m2 : Method := { name := "compareTo", desc := "([B[BII)I", sig := { parameters := [(.array .byte), (.array .byte), .int, .int], returnType := some .int }, accessFlags := 9, code := some k13c2 }
def k13c3 : Code := { maxStack := 2, maxLocals := 2, code := jdk_43_method_44_code, exceptionTable := #[], attributes := #[] }
def k13m3 : Method := { name := "getChar", desc := "([BI)C", sig := { parameters := [(.array .byte), .int], returnType := some .char }, accessFlags := 9, code := some k13c3 }
/-- java/lang/StringLatin1 -/
def k13 : Class := { plain "java/lang/StringLatin1" (some 0) with
  accessFlags := 48
  interfaces := #[]
  cf := some (fileOf pool13 14 #[.nestMembers #[390, 221]] #[{ accessFlags := 0, nameIndex := 7, descriptorIndex := 8, attributes := #[] }, { accessFlags := 9, nameIndex := 36, descriptorIndex := 287, attributes := #[] }, { accessFlags := 9, nameIndex := 36, descriptorIndex := 37, attributes := #[] }, { accessFlags := 9, nameIndex := 52, descriptorIndex := 53, attributes := #[] }] 48 4 #[] #[{ accessFlags := 4120, nameIndex := 121, descriptorIndex := 122, attributes := #[] }])
  fields := #[{ name := "$assertionsDisabled", type := .boolean, accessFlags := 4120, slot := 0, constantValue := 0 }]
  methods := #[k13m0, k13m1, k13m2, k13m3]
  instanceTypes := #[]
  staticTypes := #[.boolean]
  resolved := Array.replicate 395 none
  statics := none }

def pool14 : Array CpInfo := pool [(1, .class_ 2), (0, u "java/lang/Math"), (1, .class_ 6), (1, u "java/lang/Object"), (0, u "<init>"), (0, u "()V"), (89, .class_ 100), (1, u "java/lang/Math$RandomNumberGeneratorHolder"), (71, u "negativeZeroFloatBits"), (0, u "J"), (2, u "negativeZeroDoubleBits"), (24, u "min"), (43, u "$assertionsDisabled"), (0, u "Z"), (88, u "(II)I"), (2, u "twoToTheDoubleScaleDown"), (0, u "D"), (4, u "twoToTheDoubleScaleUp"), (9, u "E"), (3, u "PI"), (2, u "TAU"), (2, u "DEGREES_TO_RADIANS"), (0, u "RADIANS_TO_DEGREES")] 94

def k14m0 : Method := { name := "<init>", desc := "()V", sig := { parameters := [], returnType := none }, accessFlags := 2, code := none }
def k14c1 : Code := { maxStack := 2, maxLocals := 2, code := jdk_29_method_69_code, exceptionTable := #[], attributes := #[] }
def k14m1 : Method := { name := "min", desc := "(II)I", sig := { parameters := [.int, .int], returnType := some .int }, accessFlags := 9, code := some k14c1 }
/-- java/lang/Math -/
def k14 : Class := { plain "java/lang/Math" (some 0) with
  accessFlags := 49
  interfaces := #[]
  cf := some (fileOf pool14 1 #[.nestMembers #[98]] #[{ accessFlags := 2, nameIndex := 7, descriptorIndex := 8, attributes := #[] }, { accessFlags := 9, nameIndex := 201, descriptorIndex := 335, attributes := #[] }] 49 4 #[] #[{ accessFlags := 25, nameIndex := 354, descriptorIndex := 339, attributes := #[] }, { accessFlags := 25, nameIndex := 358, descriptorIndex := 339, attributes := #[] }, { accessFlags := 25, nameIndex := 361, descriptorIndex := 339, attributes := #[] }, { accessFlags := 26, nameIndex := 364, descriptorIndex := 339, attributes := #[] }, { accessFlags := 26, nameIndex := 365, descriptorIndex := 339, attributes := #[] }, { accessFlags := 26, nameIndex := 172, descriptorIndex := 173, attributes := #[] }, { accessFlags := 26, nameIndex := 176, descriptorIndex := 173, attributes := #[] }, { accessFlags := 8, nameIndex := 344, descriptorIndex := 339, attributes := #[] }, { accessFlags := 8, nameIndex := 338, descriptorIndex := 339, attributes := #[] }, { accessFlags := 4120, nameIndex := 245, descriptorIndex := 246, attributes := #[] }])
  fields := #[{ name := "E", type := .double, accessFlags := 25, slot := 0, constantValue := 0 }, { name := "PI", type := .double, accessFlags := 25, slot := 1, constantValue := 0 }, { name := "TAU", type := .double, accessFlags := 25, slot := 2, constantValue := 0 }, { name := "DEGREES_TO_RADIANS", type := .double, accessFlags := 26, slot := 3, constantValue := 0 }, { name := "RADIANS_TO_DEGREES", type := .double, accessFlags := 26, slot := 4, constantValue := 0 }, { name := "negativeZeroFloatBits", type := .long, accessFlags := 26, slot := 5, constantValue := 0 }, { name := "negativeZeroDoubleBits", type := .long, accessFlags := 26, slot := 6, constantValue := 0 }, { name := "twoToTheDoubleScaleUp", type := .double, accessFlags := 8, slot := 7, constantValue := 0 }, { name := "twoToTheDoubleScaleDown", type := .double, accessFlags := 8, slot := 8, constantValue := 0 }, { name := "$assertionsDisabled", type := .boolean, accessFlags := 4120, slot := 9, constantValue := 0 }]
  methods := #[k14m0, k14m1]
  instanceTypes := #[]
  staticTypes := #[.double, .double, .double, .double, .double, .long, .long, .double, .double, .boolean]
  resolved := Array.replicate 460 none
  statics := none }

def pool15 : Array CpInfo := pool [(9, u "<init>"), (6, .class_ 18), (1, u "java/lang/Object"), (0, u "()V"), (1, .class_ 23), (1, u "jdk/internal/util/ArraysSupport"), (0, u "LOG2_ARRAY_LONG_INDEX_SCALE"), (0, u "I"), (2, u "U"), (0, u "Ljdk/internal/misc/Unsafe;"), (8, u "BIG_ENDIAN"), (0, u "Z"), (8, u "LOG2_BYTE_BIT_SIZE"), (4, u "LOG2_ARRAY_INT_INDEX_SCALE"), (54, u "JLA"), (0, u "Ljdk/internal/access/JavaLangAccess;"), (11, u "LOG2_ARRAY_BOOLEAN_INDEX_SCALE"), (9, u "LOG2_ARRAY_BYTE_INDEX_SCALE"), (5, u "LOG2_ARRAY_CHAR_INDEX_SCALE"), (5, u "LOG2_ARRAY_SHORT_INDEX_SCALE"), (5, u "mismatch"), (12, u "LOG2_ARRAY_FLOAT_INDEX_SCALE"), (24, u "LOG2_ARRAY_DOUBLE_INDEX_SCALE"), (89, u "T_BOOLEAN"), (2, u "T_CHAR"), (1, u "T_FLOAT"), (1, u "T_DOUBLE"), (1, u "T_BYTE"), (1, u "T_SHORT"), (1, u "T_INT"), (1, u "T_LONG"), (1, u "SOFT_MAX_ARRAY_LENGTH"), (41, u "([B[BI)I")] 41

def k15m0 : Method := { name := "<init>", desc := "()V", sig := { parameters := [], returnType := none }, accessFlags := 2, code := none }
def k15c1 : Code := { maxStack := 8, maxLocals := 4, code := jdk_48_method_13_code, exceptionTable := #[], attributes := #[] }
def k15m1 : Method := { name := "mismatch", desc := "([B[BI)I", sig := { parameters := [(.array .byte), (.array .byte), .int], returnType := some .int }, accessFlags := 9, code := some k15c1 }
/-- jdk/internal/util/ArraysSupport -/
def k15 : Class := { plain "jdk/internal/util/ArraysSupport" (some 0) with
  accessFlags := 33
  interfaces := #[]
  cf := some (fileOf pool15 21 #[] #[{ accessFlags := 2, nameIndex := 9, descriptorIndex := 19, attributes := #[] }, { accessFlags := 9, nameIndex := 149, descriptorIndex := 336, attributes := #[] }] 33 16 #[] #[{ accessFlags := 24, nameIndex := 28, descriptorIndex := 29, attributes := #[] }, { accessFlags := 26, nameIndex := 38, descriptorIndex := 39, attributes := #[] }, { accessFlags := 25, nameIndex := 121, descriptorIndex := 25, attributes := #[] }, { accessFlags := 25, nameIndex := 131, descriptorIndex := 25, attributes := #[] }, { accessFlags := 25, nameIndex := 137, descriptorIndex := 25, attributes := #[] }, { accessFlags := 25, nameIndex := 143, descriptorIndex := 25, attributes := #[] }, { accessFlags := 25, nameIndex := 53, descriptorIndex := 25, attributes := #[] }, { accessFlags := 25, nameIndex := 24, descriptorIndex := 25, attributes := #[] }, { accessFlags := 25, nameIndex := 162, descriptorIndex := 25, attributes := #[] }, { accessFlags := 25, nameIndex := 187, descriptorIndex := 25, attributes := #[] }, { accessFlags := 26, nameIndex := 48, descriptorIndex := 25, attributes := #[] }, { accessFlags := 25, nameIndex := 277, descriptorIndex := 25, attributes := #[] }, { accessFlags := 25, nameIndex := 280, descriptorIndex := 25, attributes := #[] }, { accessFlags := 25, nameIndex := 282, descriptorIndex := 25, attributes := #[] }, { accessFlags := 25, nameIndex := 284, descriptorIndex := 25, attributes := #[] }, { accessFlags := 25, nameIndex := 286, descriptorIndex := 25, attributes := #[] }, { accessFlags := 25, nameIndex := 288, descriptorIndex := 25, attributes := #[] }, { accessFlags := 25, nameIndex := 290, descriptorIndex := 25, attributes := #[] }, { accessFlags := 25, nameIndex := 292, descriptorIndex := 25, attributes := #[] }, { accessFlags := 26, nameIndex := 108, descriptorIndex := 109, attributes := #[] }, { accessFlags := 25, nameIndex := 294, descriptorIndex := 25, attributes := #[] }])
  fields := #[{ name := "U", type := (.object "jdk/internal/misc/Unsafe"), accessFlags := 24, slot := 0, constantValue := 0 }, { name := "BIG_ENDIAN", type := .boolean, accessFlags := 26, slot := 1, constantValue := 0 }, { name := "LOG2_ARRAY_BOOLEAN_INDEX_SCALE", type := .int, accessFlags := 25, slot := 2, constantValue := 0 }, { name := "LOG2_ARRAY_BYTE_INDEX_SCALE", type := .int, accessFlags := 25, slot := 3, constantValue := 0 }, { name := "LOG2_ARRAY_CHAR_INDEX_SCALE", type := .int, accessFlags := 25, slot := 4, constantValue := 0 }, { name := "LOG2_ARRAY_SHORT_INDEX_SCALE", type := .int, accessFlags := 25, slot := 5, constantValue := 0 }, { name := "LOG2_ARRAY_INT_INDEX_SCALE", type := .int, accessFlags := 25, slot := 6, constantValue := 0 }, { name := "LOG2_ARRAY_LONG_INDEX_SCALE", type := .int, accessFlags := 25, slot := 7, constantValue := 0 }, { name := "LOG2_ARRAY_FLOAT_INDEX_SCALE", type := .int, accessFlags := 25, slot := 8, constantValue := 0 }, { name := "LOG2_ARRAY_DOUBLE_INDEX_SCALE", type := .int, accessFlags := 25, slot := 9, constantValue := 0 }, { name := "LOG2_BYTE_BIT_SIZE", type := .int, accessFlags := 26, slot := 10, constantValue := 0 }, { name := "T_BOOLEAN", type := .int, accessFlags := 25, slot := 11, constantValue := 0 }, { name := "T_CHAR", type := .int, accessFlags := 25, slot := 12, constantValue := 0 }, { name := "T_FLOAT", type := .int, accessFlags := 25, slot := 13, constantValue := 0 }, { name := "T_DOUBLE", type := .int, accessFlags := 25, slot := 14, constantValue := 0 }, { name := "T_BYTE", type := .int, accessFlags := 25, slot := 15, constantValue := 0 }, { name := "T_SHORT", type := .int, accessFlags := 25, slot := 16, constantValue := 0 }, { name := "T_INT", type := .int, accessFlags := 25, slot := 17, constantValue := 0 }, { name := "T_LONG", type := .int, accessFlags := 25, slot := 18, constantValue := 0 }, { name := "JLA", type := (.object "jdk/internal/access/JavaLangAccess"), accessFlags := 26, slot := 19, constantValue := 0 }, { name := "SOFT_MAX_ARRAY_LENGTH", type := .int, accessFlags := 25, slot := 20, constantValue := 0 }]
  methods := #[k15m0, k15m1]
  instanceTypes := #[]
  staticTypes := #[(.object "jdk/internal/misc/Unsafe"), .boolean, .int, .int, .int, .int, .int, .int, .int, .int, .int, .int, .int, .int, .int, .int, .int, .int, .int, (.object "jdk/internal/access/JavaLangAccess"), .int]
  resolved := Array.replicate 378 none
  statics := none }

def pool16 : Array CpInfo := pool [(1, .class_ 2), (0, u "java/lang/Integer"), (16, u "digits"), (0, u "[C"), (39, u "(II)I"), (24, u "DigitOnes"), (0, u "[B"), (2, u "DigitTens"), (99, .class_ 190), (0, u "java/lang/Integer$IntegerCache"), (3, u "I"), (8, .class_ 204), (0, u "java/lang/Number"), (2, u "value"), (53, u "compare"), (40, u "TYPE"), (0, u "Ljava/lang/Class;"), (0, .class_ 305), (0, u "java/lang/Comparable"), (0, .class_ 307), (0, u "java/lang/constant/Constable"), (0, .class_ 309), (0, u "java/lang/constant/ConstantDesc"), (0, u "MIN_VALUE"), (1, u "MAX_VALUE"), (3, u "SIZE"), (1, u "BYTES"), (1, u "serialVersionUID"), (0, u "J")] 131

def k16c0 : Code := { maxStack := 2, maxLocals := 2, code := jdk_33_method_40_code, exceptionTable := #[], attributes := #[] }
def k16m0 : Method := { name := "compare", desc := "(II)I", sig := { parameters := [.int, .int], returnType := some .int }, accessFlags := 9, code := some k16c0 }
/-- java/lang/Integer -/
def k16 : Class := { plain "java/lang/Integer" (some 11) with
  accessFlags := 49
  interfaces := #[3, 7, 8]
  cf := some (fileOf pool16 1 #[.nestMembers #[189]] #[{ accessFlags := 9, nameIndex := 261, descriptorIndex := 60, attributes := #[] }] 49 203 #[304, 306, 308] #[{ accessFlags := 25, nameIndex := 310, descriptorIndex := 194, attributes := #[] }, { accessFlags := 25, nameIndex := 312, descriptorIndex := 194, attributes := #[] }, { accessFlags := 25, nameIndex := 302, descriptorIndex := 303, attributes := #[] }, { accessFlags := 24, nameIndex := 19, descriptorIndex := 20, attributes := #[] }, { accessFlags := 24, nameIndex := 89, descriptorIndex := 86, attributes := #[] }, { accessFlags := 24, nameIndex := 85, descriptorIndex := 86, attributes := #[] }, { accessFlags := 18, nameIndex := 207, descriptorIndex := 194, attributes := #[] }, { accessFlags := 25, nameIndex := 316, descriptorIndex := 194, attributes := #[] }, { accessFlags := 25, nameIndex := 318, descriptorIndex := 194, attributes := #[] }, { accessFlags := 26, nameIndex := 320, descriptorIndex := 321, attributes := #[] }])
  fields := #[{ name := "MIN_VALUE", type := .int, accessFlags := 25, slot := 0, constantValue := 0 }, { name := "MAX_VALUE", type := .int, accessFlags := 25, slot := 1, constantValue := 0 }, { name := "TYPE", type := (.object "java/lang/Class"), accessFlags := 25, slot := 2, constantValue := 0 }, { name := "digits", type := (.array .char), accessFlags := 24, slot := 3, constantValue := 0 }, { name := "DigitTens", type := (.array .byte), accessFlags := 24, slot := 4, constantValue := 0 }, { name := "DigitOnes", type := (.array .byte), accessFlags := 24, slot := 5, constantValue := 0 }, { name := "value", type := .int, accessFlags := 18, slot := 0, constantValue := 0 }, { name := "SIZE", type := .int, accessFlags := 25, slot := 6, constantValue := 0 }, { name := "BYTES", type := .int, accessFlags := 25, slot := 7, constantValue := 0 }, { name := "serialVersionUID", type := .long, accessFlags := 26, slot := 8, constantValue := 0 }]
  methods := #[k16m0]
  instanceTypes := #[.int]
  staticTypes := #[.int, .int, (.object "java/lang/Class"), (.array .char), (.array .byte), (.array .byte), .int, .int, .long]
  resolved := Array.replicate 453 none
  statics := none }

def pool17 : Array CpInfo := pool [(2, .class_ 4), (1, u "java/lang/Object"), (0, u "<init>"), (0, u "()V"), (17, .class_ 26), (1, u "jdk/internal/util/Preconditions"), (28, .class_ 56), (0, u "jdk/internal/util/Preconditions$4"), (57, .class_ 115), (0, u "jdk/internal/util/Preconditions$1"), (7, u "SIOOBE_FORMATTER"), (0, u "Ljava/util/function/BiFunction;"), (0, .class_ 126), (0, u "jdk/internal/util/Preconditions$2"), (3, u "AIOOBE_FORMATTER"), (0, .class_ 132), (0, u "jdk/internal/util/Preconditions$3"), (3, u "IOOBE_FORMATTER")] 57

def k17m0 : Method := { name := "<init>", desc := "()V", sig := { parameters := [], returnType := none }, accessFlags := 1, code := none }
/-- jdk/internal/util/Preconditions -/
def k17 : Class := { plain "jdk/internal/util/Preconditions" (some 0) with
  accessFlags := 33
  interfaces := #[]
  cf := some (fileOf pool17 24 #[.nestMembers #[55, 131, 125, 114]] #[{ accessFlags := 1, nameIndex := 5, descriptorIndex := 6, attributes := #[] }] 33 2 #[] #[{ accessFlags := 25, nameIndex := 123, descriptorIndex := 124, attributes := #[] }, { accessFlags := 25, nameIndex := 130, descriptorIndex := 124, attributes := #[] }, { accessFlags := 25, nameIndex := 136, descriptorIndex := 124, attributes := #[] }])
  fields := #[{ name := "SIOOBE_FORMATTER", type := (.object "java/util/function/BiFunction"), accessFlags := 25, slot := 0, constantValue := 0 }, { name := "AIOOBE_FORMATTER", type := (.object "java/util/function/BiFunction"), accessFlags := 25, slot := 1, constantValue := 0 }, { name := "IOOBE_FORMATTER", type := (.object "java/util/function/BiFunction"), accessFlags := 25, slot := 2, constantValue := 0 }]
  methods := #[k17m0]
  instanceTypes := #[]
  staticTypes := #[(.object "java/util/function/BiFunction"), (.object "java/util/function/BiFunction"), (.object "java/util/function/BiFunction")]
  resolved := Array.replicate 194 none
  statics := some 1 }

def pool18 : Array CpInfo := pool [(1, u "java/lang/Cloneable"), (0, .class_ 1), (0, u "java/lang/Object"), (0, .class_ 3)] 3

/-- java/lang/Cloneable -/
def k18 : Class := { plain "java/lang/Cloneable" (some 0) with
  accessFlags := 1537
  interfaces := #[]
  cf := some (fileOf pool18 2 #[] #[] 1537 4 #[] #[])
  fields := #[]
  methods := #[]
  instanceTypes := #[]
  staticTypes := #[]
  resolved := Array.replicate 8 none
  statics := none }

/-- the primitive byte -/
def k19 : Class := { plain "byte" none with kind := .primitive 'B', accessFlags := 0x411 }
/-- [B -/
def k20 : Class := { plain "[B" (some 0) with kind := .array 19 .byte, interfaces := #[18, 5], accessFlags := 1041 }

/-- the primitive char -/
def k21 : Class := { plain "char" none with kind := .primitive 'C', accessFlags := 0x411 }
/-- [C -/
def k22 : Class := { plain "[C" (some 0) with kind := .array 21 .char, interfaces := #[18, 5], accessFlags := 1041 }

/-- the primitive int -/
def k23 : Class := { plain "int" none with kind := .primitive 'I', accessFlags := 0x411 }
/-- [I -/
def k24 : Class := { plain "[I" (some 0) with kind := .array 23 .int, interfaces := #[18, 5], accessFlags := 1041 }

def heap : Heap := #[{ cls := 9, slots := #[.long 0, .int 1, .null, .int 0, .null, .int 0, .int 0], vm := .statics 9 },
  { cls := 17, slots := #[.null, .null, .null], vm := .statics 17 }]
def classes : Array Class := #[k0, k1, k2, k3, k4, k5, k6, k7, k8, k9, k10, k11, k12, k13, k14, k15, k16, k17, k18, k19, k20, k21, k22, k23, k24]
def interned : List (Array UInt16 × Addr) := []
def slotsUsed : Nat := 10
def theMethod : MethodId := ⟨1, 4⟩
def args0 : Array Value := #[.int 1, .int 65, .int 66, .int 0, .int 7, .int 8]
def aboutOver (below : List Frame) : State where
  vm := { classes := classes, interned := interned.toArray }
  heap := heap
  slotsUsed := slotsUsed
  threads := #[{ frames := .invoking theMethod args0 :: below }]
def below0 : List Frame := [.native { method := ⟨0, 0⟩, args := #[] }]
def about1 : State := aboutOver below0
def p0 : Program := .bare "" "" ""
def e0 : Env := launch0.env 0 0 0
theorem w_frames : about1.frames = Frame.invoking theMethod args0 :: below0 := rfl
set_option maxRecDepth 65536 in
theorem w_args : argsFit about1.vm theMethod args0 = true := by decide +kernel
set_option maxRecDepth 65536 in
theorem w_heap : heapFits about1 = true := by decide +kernel
set_option maxRecDepth 65536 in
theorem w_runnable : about1.curStatus? = some .runnable := by decide +kernel
set_option maxRecDepth 65536 in
theorem w_alone : about1.alone = true := by decide +kernel
set_option maxRecDepth 65536 in
theorem w_named : about1.methodNamed? x = some theMethod := by decide +kernel
set_option maxRecDepth 65536 in
theorem w_hears : about1.hears theMethod below0 = true := by decide +kernel
set_option maxRecDepth 65536 in
theorem w_ripe : about1.ripe theMethod args0 below0 = true := by decide +kernel
theorem w_running : about1.status = .running := rfl
set_option maxRecDepth 65536 in
theorem w_room : about1.hasRoom e0.platform room_1 = true :=
  launch0.hasRoom_least _ room_1 (by decide +kernel) (by decide +kernel) (by decide +kernel) (by decide +kernel) (by decide +kernel) (by decide +kernel)
theorem allAtoms_all (ts : List Jvm.Cond) (a : Array Jvm.Value) (st : Jvm.State) : (allAtoms ts).before a st = ts.all (fun c => c.before a st) := by
  induction ts with
  | nil => rfl
  | cons c t ih =>
    show (Jvm.Cond.and c (allAtoms t)).before a st = _
    rw [Jvm.Cond.before_and, ih, List.all_cons]
def words1 : List Jvm.Cond := Jvm.Cond.code x code maxLocals ret :: tables_1
/-- a 'code' word, met by the world's own term for the bytes: nothing is compared byte by byte -/
theorem code_word {y : MethodName} {bytes : ByteArray} {mx : Nat} {rt : Option FieldType} {a : Array Value} {s : State} {m : MethodId} {meth : Method} {c : Code} (h1 : s.methodNamed? y = some m) (h2 : s.vm.method? m = some meth) (h3 : meth.code = some c) (h4 : c.code = bytes)
    (h5 : (c.maxLocals == mx && c.exceptionTable.isEmpty && decide (c.maxStack ≤ mostOperands) && decide (meth.sig.returnType = rt) && !meth.locks && decide (parseMethodDescriptor y.desc = some meth.sig)) = true) : (Jvm.Cond.code y bytes mx rt).before a s = true := by
  simp only [Bool.and_eq_true, beq_iff_eq, Bool.not_eq_true', decide_eq_true_eq] at h5
  obtain ⟨⟨⟨⟨⟨g1, g2⟩, g3⟩, g4⟩, g5⟩, g6⟩ := h5
  simp [Cond.before, Cond.holds, Cond.value, h1, h2, h3, h4, g1, g2, g3, g4, g5, g6]
def isCode : Jvm.Cond → Bool
  | .code _ _ _ _ => true
  | _ => false
theorem all_split {L : List Jvm.Cond} {P : Jvm.Cond → Bool} (h1 : L.all (fun c => isCode c || P c) = true) (h2 : ∀ c ∈ L.filter isCode, P c = true) : L.all P = true := by
  refine List.all_eq_true.mpr fun c hc => ?_
  have h := List.all_eq_true.mp h1 c hc
  rcases Bool.eq_false_or_eq_true (isCode c) with hi | hi
  · exact h2 c (List.mem_filter.mpr ⟨hc, hi⟩)
  · simpa [hi] using h
set_option maxRecDepth 65536 in
theorem w_c0 : (Jvm.Cond.code x code maxLocals ret).before args0 about1 = true := code_word (m := ⟨1, 4⟩) (meth := k1m4) (c := k1c4) (by decide +kernel) rfl rfl rfl (by decide +kernel)
set_option maxRecDepth 65536 in
theorem w_c1 : (Jvm.Cond.code ({ cls := "com/example/tokenweave/tokenweave/core/EntryNameCompareToPinLaw", name := "hashOf", desc := "(I)Ljava/lang/String;" } : Jvm.MethodName) method_3_code (2 : Nat) (Option.some (Jvm.ClassFile.FieldType.object "java/lang/String"))).before args0 about1 = true := code_word (m := ⟨1, 2⟩) (meth := k1m2) (c := k1c2) (by decide +kernel) rfl rfl rfl (by decide +kernel)
set_option maxRecDepth 65536 in
theorem w_c2 : (Jvm.Cond.code ({ cls := "com/example/tokenweave/tokenweave/core/EntryNameCompareToPinLaw", name := "hex", desc := "(I)C" } : Jvm.MethodName) method_2_code (1 : Nat) (Option.some Jvm.ClassFile.FieldType.char)).before args0 about1 = true := code_word (m := ⟨1, 1⟩) (meth := k1m1) (c := k1c1) (by decide +kernel) rfl rfl rfl (by decide +kernel)
set_option maxRecDepth 65536 in
theorem w_c3 : (Jvm.Cond.code ({ cls := "java/lang/String", name := "<init>", desc := "([C)V" } : Jvm.MethodName) jdk_42_method_3_code (2 : Nat) (Option.none : Option Jvm.ClassFile.FieldType)).before args0 about1 = true := code_word (m := ⟨9, 1⟩) (meth := k9m1) (c := k9c1) (by decide +kernel) rfl rfl rfl (by decide +kernel)
set_option maxRecDepth 65536 in
theorem w_c4 : (Jvm.Cond.code ({ cls := "java/lang/String", name := "<init>", desc := "([CIILjava/lang/Void;)V" } : Jvm.MethodName) jdk_42_method_149_code (6 : Nat) (Option.none : Option Jvm.ClassFile.FieldType)).before args0 about1 = true := code_word (m := ⟨9, 3⟩) (meth := k9m3) (c := k9c3) (by decide +kernel) rfl rfl rfl (by decide +kernel)
set_option maxRecDepth 65536 in
theorem w_c5 : (Jvm.Cond.code ({ cls := "java/lang/Object", name := "<init>", desc := "()V" } : Jvm.MethodName) object_method_1_code (1 : Nat) (Option.none : Option Jvm.ClassFile.FieldType)).before args0 about1 = true := code_word (m := ⟨0, 0⟩) (meth := k0m0) (c := k0c0) (by decide +kernel) rfl rfl rfl (by decide +kernel)
set_option maxRecDepth 65536 in
theorem w_c6 : (Jvm.Cond.code ({ cls := "java/lang/StringUTF16", name := "compress", desc := "([CII)[B" } : Jvm.MethodName) jdk_52_method_16_code (6 : Nat) (Option.some (Jvm.ClassFile.FieldType.array Jvm.ClassFile.FieldType.byte))).before args0 about1 = true := code_word (m := ⟨10, 2⟩) (meth := k10m2) (c := k10c2) (by decide +kernel) rfl rfl rfl (by decide +kernel)
set_option maxRecDepth 65536 in
theorem w_c7 : (Jvm.Cond.code ({ cls := "java/lang/StringUTF16", name := "compress", desc := "([CI[BII)I" } : Jvm.MethodName) jdk_52_method_21_code (7 : Nat) (Option.some Jvm.ClassFile.FieldType.int)).before args0 about1 = true := code_word (m := ⟨10, 3⟩) (meth := k10m3) (c := k10c3) (by decide +kernel) rfl rfl rfl (by decide +kernel)
set_option maxRecDepth 65536 in
theorem w_c8 : (Jvm.Cond.code ({ cls := "java/lang/StringUTF16", name := "coderFromArrayLen", desc := "([BI)B" } : Jvm.MethodName) jdk_52_method_15_code (2 : Nat) (Option.some Jvm.ClassFile.FieldType.byte)).before args0 about1 = true := code_word (m := ⟨10, 1⟩) (meth := k10m1) (c := k10c1) (by decide +kernel) rfl rfl rfl (by decide +kernel)
set_option maxRecDepth 65536 in
theorem w_c9 : (Jvm.Cond.code ({ cls := "com/example/tokenweave/tokenweave/core/EntryName", name := "<init>", desc := "(BLjava/lang/String;I)V" } : Jvm.MethodName) prog_6_method_1_code (4 : Nat) (Option.none : Option Jvm.ClassFile.FieldType)).before args0 about1 = true := code_word (m := ⟨4, 0⟩) (meth := k4m0) (c := k4c0) (by decide +kernel) rfl rfl rfl (by decide +kernel)
set_option maxRecDepth 65536 in
theorem w_c10 : (Jvm.Cond.code ({ cls := "java/lang/Record", name := "<init>", desc := "()V" } : Jvm.MethodName) jdk_30_method_1_code (1 : Nat) (Option.none : Option Jvm.ClassFile.FieldType)).before args0 about1 = true := code_word (m := ⟨2, 0⟩) (meth := k2m0) (c := k2c0) (by decide +kernel) rfl rfl rfl (by decide +kernel)
set_option maxRecDepth 65536 in
theorem w_c11 : (Jvm.Cond.code ({ cls := "com/example/tokenweave/tokenweave/core/EntryName", name := "compareTo", desc := "(Lcom/example/tokenweave/tokenweave/core/EntryName;)I" } : Jvm.MethodName) prog_6_method_7_code (3 : Nat) (Option.some Jvm.ClassFile.FieldType.int)).before args0 about1 = true := code_word (m := ⟨4, 1⟩) (meth := k4m1) (c := k4c1) (by decide +kernel) rfl rfl rfl (by decide +kernel)
set_option maxRecDepth 65536 in
theorem w_c12 : (Jvm.Cond.code ({ cls := "java/lang/Byte", name := "compare", desc := "(BB)I" } : Jvm.MethodName) jdk_2056_method_22_code (2 : Nat) (Option.some Jvm.ClassFile.FieldType.int)).before args0 about1 = true := code_word (m := ⟨12, 0⟩) (meth := k12m0) (c := k12c0) (by decide +kernel) rfl rfl rfl (by decide +kernel)
set_option maxRecDepth 65536 in
theorem w_c13 : (Jvm.Cond.code ({ cls := "com/example/tokenweave/tokenweave/core/EntryNameCompareToPinLaw", name := "sign", desc := "(I)I" } : Jvm.MethodName) method_4_code (1 : Nat) (Option.some Jvm.ClassFile.FieldType.int)).before args0 about1 = true := code_word (m := ⟨1, 3⟩) (meth := k1m3) (c := k1c3) (by decide +kernel) rfl rfl rfl (by decide +kernel)
set_option maxRecDepth 65536 in
theorem w_c14 : (Jvm.Cond.code ({ cls := "java/lang/String", name := "compareTo", desc := "(Ljava/lang/String;)I" } : Jvm.MethodName) jdk_42_method_71_code (5 : Nat) (Option.some Jvm.ClassFile.FieldType.int)).before args0 about1 = true := code_word (m := ⟨9, 2⟩) (meth := k9m2) (c := k9c2) (by decide +kernel) rfl rfl rfl (by decide +kernel)
set_option maxRecDepth 65536 in
theorem w_c15 : (Jvm.Cond.code ({ cls := "java/lang/String", name := "coder", desc := "()B" } : Jvm.MethodName) jdk_42_method_152_code (1 : Nat) (Option.some Jvm.ClassFile.FieldType.byte)).before args0 about1 = true := code_word (m := ⟨9, 4⟩) (meth := k9m4) (c := k9c4) (by decide +kernel) rfl rfl rfl (by decide +kernel)
set_option maxRecDepth 65536 in
theorem w_c16 : (Jvm.Cond.code ({ cls := "java/lang/StringLatin1", name := "compareTo", desc := "([B[B)I" } : Jvm.MethodName) jdk_43_method_14_code (4 : Nat) (Option.some Jvm.ClassFile.FieldType.int)).before args0 about1 = true := code_word (m := ⟨13, 1⟩) (meth := k13m1) (c := k13c1) (by decide +kernel) rfl rfl rfl (by decide +kernel)
set_option maxRecDepth 65536 in
theorem w_c17 : (Jvm.Cond.code ({ cls := "java/lang/StringLatin1", name := "compareTo", desc := "([B[BII)I" } : Jvm.MethodName) jdk_43_method_15_code (6 : Nat) (Option.some Jvm.ClassFile.FieldType.int)).before args0 about1 = true := code_word (m := ⟨13, 2⟩) (meth := k13m2) (c := k13c2) (by decide +kernel) rfl rfl rfl (by decide +kernel)
set_option maxRecDepth 65536 in
theorem w_c18 : (Jvm.Cond.code ({ cls := "java/lang/Math", name := "min", desc := "(II)I" } : Jvm.MethodName) jdk_29_method_69_code (2 : Nat) (Option.some Jvm.ClassFile.FieldType.int)).before args0 about1 = true := code_word (m := ⟨14, 1⟩) (meth := k14m1) (c := k14c1) (by decide +kernel) rfl rfl rfl (by decide +kernel)
set_option maxRecDepth 65536 in
theorem w_c19 : (Jvm.Cond.code ({ cls := "jdk/internal/util/ArraysSupport", name := "mismatch", desc := "([B[BI)I" } : Jvm.MethodName) jdk_48_method_13_code (4 : Nat) (Option.some Jvm.ClassFile.FieldType.int)).before args0 about1 = true := code_word (m := ⟨15, 1⟩) (meth := k15m1) (c := k15c1) (by decide +kernel) rfl rfl rfl (by decide +kernel)
set_option maxRecDepth 65536 in
theorem w_c20 : (Jvm.Cond.code ({ cls := "java/lang/StringLatin1", name := "getChar", desc := "([BI)C" } : Jvm.MethodName) jdk_43_method_44_code (2 : Nat) (Option.some Jvm.ClassFile.FieldType.char)).before args0 about1 = true := code_word (m := ⟨13, 3⟩) (meth := k13m3) (c := k13c3) (by decide +kernel) rfl rfl rfl (by decide +kernel)
set_option maxRecDepth 65536 in
theorem w_c21 : (Jvm.Cond.code ({ cls := "java/lang/Integer", name := "compare", desc := "(II)I" } : Jvm.MethodName) jdk_33_method_40_code (2 : Nat) (Option.some Jvm.ClassFile.FieldType.int)).before args0 about1 = true := code_word (m := ⟨16, 0⟩) (meth := k16m0) (c := k16c0) (by decide +kernel) rfl rfl rfl (by decide +kernel)
def codes1 : List Jvm.Cond := [Jvm.Cond.code x code maxLocals ret, Jvm.Cond.code ({ cls := "com/example/tokenweave/tokenweave/core/EntryNameCompareToPinLaw", name := "hashOf", desc := "(I)Ljava/lang/String;" } : Jvm.MethodName) method_3_code (2 : Nat) (Option.some (Jvm.ClassFile.FieldType.object "java/lang/String")), Jvm.Cond.code ({ cls := "com/example/tokenweave/tokenweave/core/EntryNameCompareToPinLaw", name := "hex", desc := "(I)C" } : Jvm.MethodName) method_2_code (1 : Nat) (Option.some Jvm.ClassFile.FieldType.char), Jvm.Cond.code ({ cls := "java/lang/String", name := "<init>", desc := "([C)V" } : Jvm.MethodName) jdk_42_method_3_code (2 : Nat) (Option.none : Option Jvm.ClassFile.FieldType), Jvm.Cond.code ({ cls := "java/lang/String", name := "<init>", desc := "([CIILjava/lang/Void;)V" } : Jvm.MethodName) jdk_42_method_149_code (6 : Nat) (Option.none : Option Jvm.ClassFile.FieldType), Jvm.Cond.code ({ cls := "java/lang/Object", name := "<init>", desc := "()V" } : Jvm.MethodName) object_method_1_code (1 : Nat) (Option.none : Option Jvm.ClassFile.FieldType), Jvm.Cond.code ({ cls := "java/lang/StringUTF16", name := "compress", desc := "([CII)[B" } : Jvm.MethodName) jdk_52_method_16_code (6 : Nat) (Option.some (Jvm.ClassFile.FieldType.array Jvm.ClassFile.FieldType.byte)), Jvm.Cond.code ({ cls := "java/lang/StringUTF16", name := "compress", desc := "([CI[BII)I" } : Jvm.MethodName) jdk_52_method_21_code (7 : Nat) (Option.some Jvm.ClassFile.FieldType.int), Jvm.Cond.code ({ cls := "java/lang/StringUTF16", name := "coderFromArrayLen", desc := "([BI)B" } : Jvm.MethodName) jdk_52_method_15_code (2 : Nat) (Option.some Jvm.ClassFile.FieldType.byte), Jvm.Cond.code ({ cls := "com/example/tokenweave/tokenweave/core/EntryName", name := "<init>", desc := "(BLjava/lang/String;I)V" } : Jvm.MethodName) prog_6_method_1_code (4 : Nat) (Option.none : Option Jvm.ClassFile.FieldType), Jvm.Cond.code ({ cls := "java/lang/Record", name := "<init>", desc := "()V" } : Jvm.MethodName) jdk_30_method_1_code (1 : Nat) (Option.none : Option Jvm.ClassFile.FieldType), Jvm.Cond.code ({ cls := "com/example/tokenweave/tokenweave/core/EntryName", name := "compareTo", desc := "(Lcom/example/tokenweave/tokenweave/core/EntryName;)I" } : Jvm.MethodName) prog_6_method_7_code (3 : Nat) (Option.some Jvm.ClassFile.FieldType.int), Jvm.Cond.code ({ cls := "java/lang/Byte", name := "compare", desc := "(BB)I" } : Jvm.MethodName) jdk_2056_method_22_code (2 : Nat) (Option.some Jvm.ClassFile.FieldType.int), Jvm.Cond.code ({ cls := "com/example/tokenweave/tokenweave/core/EntryNameCompareToPinLaw", name := "sign", desc := "(I)I" } : Jvm.MethodName) method_4_code (1 : Nat) (Option.some Jvm.ClassFile.FieldType.int), Jvm.Cond.code ({ cls := "java/lang/String", name := "compareTo", desc := "(Ljava/lang/String;)I" } : Jvm.MethodName) jdk_42_method_71_code (5 : Nat) (Option.some Jvm.ClassFile.FieldType.int), Jvm.Cond.code ({ cls := "java/lang/String", name := "coder", desc := "()B" } : Jvm.MethodName) jdk_42_method_152_code (1 : Nat) (Option.some Jvm.ClassFile.FieldType.byte), Jvm.Cond.code ({ cls := "java/lang/StringLatin1", name := "compareTo", desc := "([B[B)I" } : Jvm.MethodName) jdk_43_method_14_code (4 : Nat) (Option.some Jvm.ClassFile.FieldType.int), Jvm.Cond.code ({ cls := "java/lang/StringLatin1", name := "compareTo", desc := "([B[BII)I" } : Jvm.MethodName) jdk_43_method_15_code (6 : Nat) (Option.some Jvm.ClassFile.FieldType.int), Jvm.Cond.code ({ cls := "java/lang/Math", name := "min", desc := "(II)I" } : Jvm.MethodName) jdk_29_method_69_code (2 : Nat) (Option.some Jvm.ClassFile.FieldType.int), Jvm.Cond.code ({ cls := "jdk/internal/util/ArraysSupport", name := "mismatch", desc := "([B[BI)I" } : Jvm.MethodName) jdk_48_method_13_code (4 : Nat) (Option.some Jvm.ClassFile.FieldType.int), Jvm.Cond.code ({ cls := "java/lang/StringLatin1", name := "getChar", desc := "([BI)C" } : Jvm.MethodName) jdk_43_method_44_code (2 : Nat) (Option.some Jvm.ClassFile.FieldType.char), Jvm.Cond.code ({ cls := "java/lang/Integer", name := "compare", desc := "(II)I" } : Jvm.MethodName) jdk_33_method_40_code (2 : Nat) (Option.some Jvm.ClassFile.FieldType.int)]
set_option maxRecDepth 65536 in
theorem codes_eq : words1.filter isCode = codes1 := rfl
theorem w_codes : ∀ c ∈ words1.filter isCode, c.before args0 about1 = true := by
  rw [codes_eq]
  intro c hc
  simp only [codes1, List.mem_cons, List.not_mem_nil, or_false] at hc
  rcases hc with rfl | rfl | rfl | rfl | rfl | rfl | rfl | rfl | rfl | rfl | rfl | rfl | rfl | rfl | rfl | rfl | rfl | rfl | rfl | rfl | rfl | rfl
  · exact w_c0
  · exact w_c1
  · exact w_c2
  · exact w_c3
  · exact w_c4
  · exact w_c5
  · exact w_c6
  · exact w_c7
  · exact w_c8
  · exact w_c9
  · exact w_c10
  · exact w_c11
  · exact w_c12
  · exact w_c13
  · exact w_c14
  · exact w_c15
  · exact w_c16
  · exact w_c17
  · exact w_c18
  · exact w_c19
  · exact w_c20
  · exact w_c21
set_option maxRecDepth 65536 in
theorem w_t1 : (words1.take 24).all (fun c => isCode c || c.before args0 about1) = true := by decide +kernel
set_option maxRecDepth 65536 in
theorem w_t2 : ((words1.drop 24).take 24).all (fun c => isCode c || c.before args0 about1) = true := by decide +kernel
set_option maxRecDepth 65536 in
theorem w_t3 : (((words1.drop 24).drop 24).take 24).all (fun c => isCode c || c.before args0 about1) = true := by decide +kernel
set_option maxRecDepth 65536 in
theorem w_t4 : ((((words1.drop 24).drop 24).drop 24).take 24).all (fun c => isCode c || c.before args0 about1) = true := by decide +kernel
set_option maxRecDepth 65536 in
theorem w_t5 : ((((words1.drop 24).drop 24).drop 24).drop 24).all (fun c => isCode c || c.before args0 about1) = true := by decide +kernel
theorem w_tables : (allAtoms (Jvm.Cond.code x code maxLocals ret :: tables_1)).before args0 about1 = true := by
  rw [allAtoms_all]
  show words1.all (fun c => c.before args0 about1) = true
  refine all_split ?_ w_codes
  rw [← List.take_append_drop 24 words1, List.all_append, w_t1, ← List.take_append_drop 24 (words1.drop 24), List.all_append, w_t2, ← List.take_append_drop 24 ((words1.drop 24).drop 24), List.all_append, w_t3, ← List.take_append_drop 24 (((words1.drop 24).drop 24).drop 24), List.all_append, w_t4, w_t5]
  rfl
set_option maxRecDepth 65536 in
theorem w_rest : rest_1_c.before args0 about1 = true := by decide +kernel
set_option maxRecDepth 65536 in
theorem w_case : (Jvm.Cond.and given_1 narrow_1).before args0 about1 = true := by decide +kernel
theorem w_applies : (headSpec (Jvm.Cond.code x code maxLocals ret :: tables_1) room_1).applies x e0.platform about1 = true :=
  (Spec.applies_iff w_frames).mpr ⟨w_running, w_runnable, w_alone, w_named, w_hears, w_ripe, w_room, w_tables⟩
theorem atStart : AtStart classFile x code maxLocals ret World_1 tables_1 room_1 Calls_1 rest_1 Pre_1 launch0 p0 e0 about1 theMethod args0 below0 :=
  ⟨lists_1, trivial, launch0.admits_env _ _ _, launch0.least_env, fairChoices_fair.cas, fairChoices_fair.clock, w_frames, w_args, w_heap, w_applies, trivial, w_rest, w_case⟩
end start1
theorem witness_1 : WitnessClaimed_1 := ⟨start1.p0, start1.e0, start1.about1, start1.theMethod, start1.args0, start1.below0, start1.atStart⟩
end Jvm.Pilot.@@N@@
