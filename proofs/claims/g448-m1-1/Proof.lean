import JvmDerived
import JvmDerived.Pilot.@@N@@Statement
import JvmDerived.Pilot.@@N@@Code
set_option linter.unusedVariables false
set_option linter.unusedSimpArgs false
namespace Jvm.RoadKit
open Sem ClassFile Op Lib Jvm.Stand Jvm.Free Jvm.LawKit
section OwnGo
variable {p : Program} {l : Launch} {e : Env} {R : Room} {s : State} {m : MethodId} {args : Array Value} {below : List Frame} {meth : Method} {c : Code} {T T' : State} {locs : List Loc} {cells slots : Nat} {tb : Tables} {P : State → Outcome → Prop} {g g' : JFrame} {Z : State} {a0 : Array Value} {h h' : Heap}
/-- from here the run goes on to an end that P says -/
def Go (tb : Tables) (e : Env) (below : List Frame) (P : State → Outcome → Prop) (T : State) (g : JFrame) : Prop :=
  ∃ u o, Steps tb e below (T.setTop g) u ∧ u.status = .running ∧ Ended u below o ∧ P u o
theorem Go.st (st : ∀ target, Steps tb e below (T'.setTop g') target → Steps tb e below (T.setTop g) target) (k : Go tb e below P T' g') : Go tb e below P T g := by
  obtain ⟨u, o, h1, h2⟩ := k
  exact ⟨u, o, st u h1, h2⟩
theorem Go.tr (st : Steps tb e below (T.setTop g) (T'.setTop g')) (k : Go tb e below P T' g') : Go tb e below P T g := Go.st (fun _ h => st.trans h) k
theorem Go.cast (q : g = g') (k : Go tb e below P T g') : Go tb e below P T g := q ▸ k
/-- the end of a body that interns nothing -/
def FinP (s : State) (Q : Option Value → Heap → List Loc → Prop) (K N : Nat) (u : State) (o : Outcome) : Prop := ∃ v L, o = .returned v ∧ Q v u.heap L ∧ FrameEnd s o u L K N
theorem Go.retN {Q : Option Value → Heap → List Loc → Prop} {K N : Nat} (X : Stand p l e R s m args below meth c T locs cells slots) (hx : p.tables.exec = Jvm.exec) (hlk : meth.locks = false) {pc : Nat} {Ls : Array Slot} {z : Int32} {t : FieldType} {rest : List Value} (hret : meth.sig.returnType = some t)
    (hn : narrow t (.int z) = .int z) (ht : t = .int ∨ t = .boolean ∨ t = .byte ∨ t = .char ∨ t = .short) (hd : decode c.code pc = .ok (.ireturn, 1)) (hK : cells ≤ K) (hN : slots ≤ N) (eT : T.heap = h) (hQ : Q (some (.int z)) h locs) : Go p.tables e below (FinP s Q K N) T (mkF m pc Ls (.int z :: rest)) := by
  obtain ⟨fs, hr, hrun, hended, hW, hsame⟩ := X.leave (v := some (.int z)) (fun h => by rw [hret] at h; cases h) hlk
  exact ⟨_, _, retOut X hx hret hn (Or.inl ⟨rfl, ht, z, rfl⟩) hd hr, hrun, hended, _, _, rfl, (by rw [show (T.setFrames fs).heap = h from eT]; exact hQ), ⟨_, rfl⟩, hW, hsame.mono hK hN⟩
theorem Go.retL {Q : Option Value → Heap → List Loc → Prop} {K N : Nat} (X : Stand p l e R s m args below meth c T locs cells slots) (hx : p.tables.exec = Jvm.exec) (hlk : meth.locks = false) {pc : Nat} {Ls : Array Slot} {z : Int64} {rest : List Value} (hret : meth.sig.returnType = some .long)
    (hd : decode c.code pc = .ok (.lreturn, 1)) (hK : cells ≤ K) (hN : slots ≤ N) (eT : T.heap = h) (hQ : Q (some (.long z)) h locs) : Go p.tables e below (FinP s Q K N) T (mkF m pc Ls (.long z :: rest)) := by
  obtain ⟨fs, hr, hrun, hended, hW, hsame⟩ := X.leave (v := some (.long z)) (fun h => by rw [hret] at h; cases h) hlk
  exact ⟨_, _, retOut X hx hret rfl (Or.inr (Or.inl ⟨rfl, rfl, z, rfl⟩)) hd hr, hrun, hended, _, _, rfl, (by rw [show (T.setFrames fs).heap = h from eT]; exact hQ), ⟨_, rfl⟩, hW, hsame.mono hK hN⟩
theorem narrow_ref {t : FieldType} {w : Value} (ht : t.isReference = true) : narrow t w = w := by cases t <;> first | rfl | (cases w <;> rfl) | (simp [FieldType.isReference] at ht)
theorem Go.retA {Q : Option Value → Heap → List Loc → Prop} {K N : Nat} (X : Stand p l e R s m args below meth c T locs cells slots) (hx : p.tables.exec = Jvm.exec) (hlk : meth.locks = false) {pc : Nat} {Ls : Array Slot} {w : Value} {t : FieldType} {rest : List Value} (hret : meth.sig.returnType = some t)
    (ht : t.isReference = true) (hw : w.isRef = true) (hd : decode c.code pc = .ok (.areturn, 1)) (hK : cells ≤ K) (hN : slots ≤ N) (eT : T.heap = h) (hQ : Q (some w) h locs) : Go p.tables e below (FinP s Q K N) T (mkF m pc Ls (w :: rest)) := by
  obtain ⟨fs, hr, hrun, hended, hW, hsame⟩ := X.leave (v := some w) (fun h => by rw [hret] at h; cases h) hlk
  exact ⟨_, _, retOut X hx hret (narrow_ref ht) (Or.inr (Or.inr (Or.inr (Or.inr ⟨rfl, ht, hw⟩)))) hd hr, hrun, hended, _, _, rfl, (by rw [show (T.setFrames fs).heap = h from eT]; exact hQ), ⟨_, rfl⟩, hW, hsame.mono hK hN⟩
theorem Go.retV {Q : Option Value → Heap → List Loc → Prop} {K N : Nat} (X : Stand p l e R s m args below meth c T locs cells slots) (hx : p.tables.exec = Jvm.exec) (hlk : meth.locks = false) {pc : Nat} {Ls : Array Slot} (hret : meth.sig.returnType = none)
    (hd : decode c.code pc = .ok (.return_, 1)) (hK : cells ≤ K) (hN : slots ≤ N) (eT : T.heap = h) (hQ : Q none h locs) : Go p.tables e below (FinP s Q K N) T (mkF m pc Ls []) := by
  obtain ⟨fs, hr, hrun, hended, hW, hsame⟩ := X.leave (v := none) (fun _ => rfl) hlk
  exact ⟨_, _, X.returnOut hx hret hd hr, hrun, hended, _, _, rfl, (by rw [show (T.setFrames fs).heap = h from eT]; exact hQ), ⟨_, rfl⟩, hW, hsame.mono hK hN⟩
/-- a body's contract: called with as' at the heap h0 it returns as Q says -/
def Con (l : Launch) (Z : State) (y : MethodName) (bytes : ByteArray) (maxL : Nat) (ret : Option FieldType) (ws : List Cond) (rm : Room) (as' : Array Value) (h0 : Heap) (Q : Option Value → Heap → List Loc → Prop) : Prop :=
  MetFree l y (head1 (Cond.code y bytes maxL ret :: ws) rm) (fun a U => a = as' ∧ Z.Warmed39 U.vm ∧ U.heap = h0) (fun _ _ _ _ _ => True) (fun _ U o U' => ∃ v L, o = .returned v ∧ Q v U'.heap L ∧ FrameEnd U o U' L rm.cells rm.slots)
theorem Con.enter {y : MethodName} {bytes : ByteArray} {maxL : Nat} {ret : Option FieldType} {ws : List Cond} {rm : Room} {as' : Array Value} {h0 : Heap} {Q : Option Value → Heap → List Loc → Prop} (hp : plainFor y = true)
    (H : ∀ (p : Program) (e : Env) (s : State) (m : MethodId) (below : List Frame) (meth : Method) (c : Code) (s₁ : State), Stand p l e rm s m as' below meth c s₁ [] 0 0 → p.tables.exec = Jvm.exec → Z.Warmed39 s.vm → c.code = bytes → c.maxLocals = maxL → meth.sig.returnType = ret → meth.locks = false → s.vm.findClass y.cls = some m.cls → meth.name = y.name → s₁.heap = h0 →
      Go p.tables e below (FinP s Q rm.cells rm.slots) s₁ (entryFrame m as' maxL)) : Con l Z y bytes maxL ret ws rm as' h0 Q := by
  refine MetFree.of_bodySF hp hisR ?_
  intro p e s m args below meth c s₁ Bd hml0 hP hK
  obtain ⟨rfl, hZ, hh⟩ := hP
  exact H p e s m below meth c s₁ (Stand.of_body Bd) Bd.exec hZ Bd.bytes hml0 Bd.returns Bd.notSynchronized (findClass_of_methodNamed Bd.named) (name_of_methodNamed Bd.named Bd.method).1 (by rw [← hh, Bd.state]; rfl)
theorem Con.mono {y : MethodName} {bytes : ByteArray} {maxL : Nat} {ret : Option FieldType} {ws : List Cond} {rm : Room} {as' : Array Value} {h0 : Heap} {Q Q' : Option Value → Heap → List Loc → Prop} (C : Con l Z y bytes maxL ret ws rm as' h0 Q) (H : ∀ v h L, Q v h L → Q' v h L) : Con l Z y bytes maxL ret ws rm as' h0 Q' := by
  intro p e ha hc hk s m args below hf happ hP hK
  obtain ⟨n, o, h1, h2, h3, v, L, rfl, hq, hr⟩ := C p e ha hc hk s m args below hf happ hP hK
  exact ⟨n, _, h1, h2, h3, v, L, rfl, H _ _ _ hq, hr⟩
variable {y z : MethodName} {bytes : ByteArray} {maxL : Nat} {ret : Option FieldType} {rm : Room} {as' : Array Value} {Q : Option Value → Heap → List Loc → Prop} {W len : Nat} {own C owner : String} {index : Nat} {argsL rest : List Value}
/-- behind a call -/
theorem Go.back {vs : Array Value} {vm1 : Vm → Pt} {n : Nat} (H : ∃ (v : Option Value) (vm₁ : Vm) (B : Pt), s.WarmedH vm₁ ∧ Stand p l e R s m args below meth c B.U B.locs B.cells B.slots ∧ (∃ L, Q v B.U.heap L ∧ B.locs = locs ++ L ∧ B.cells = cells + rm.cells ∧ B.slots = slots + rm.slots) ∧
      Steps p.tables e below (T.setTop g) (B.U.setTop { g with pc := g.pc + n, stack := v.toList ++ rest }))
    (k : ∀ (v : Option Value) (T' : State) (h' : Heap) (L : List Loc), Stand p l e R s m args below meth c T' (locs ++ L) (cells + rm.cells) (slots + rm.slots) → T'.heap = h' → Q v h' L → Go p.tables e below P T' { g with pc := g.pc + n, stack := v.toList ++ rest }) : Go p.tables e below P T g := by
  obtain ⟨v, _, ⟨U, L1, k1, n1⟩, -, X', ⟨L, hQ, e1, e2, e3⟩, st⟩ := H
  have e1' : L1 = locs ++ L := e1
  have e2' : k1 = cells + rm.cells := e2
  have e3' : n1 = slots + rm.slots := e3
  subst e1' e2' e3'
  exact Go.tr st (k v U _ L X' rfl hQ)
theorem Go.callSt (X : Stand p l e R s m args below meth c T locs cells slots) (hx : p.tables.exec = Jvm.exec) (hZ : Z.Warmed39 s.vm) (hown : s.vm.findClass own = some m.cls) (eT : T.heap = h)
    (w1 : (Cond.methodLink own index y).before a0 Z = true) (w2 : (Cond.static y).before a0 Z = true) (w3 : (Cond.initialized y.cls).before a0 Z = true) (w4 : (Cond.code y bytes maxL ret).before a0 Z = true) (hy : y.cls ≠ "java/lang/invoke/MethodHandle" ∧ y.cls ≠ "java/lang/invoke/VarHandle")
    (hM : Con l Z y bytes maxL ret [] rm as' h Q) (ha : argsL.toArray = as') (hlen : ∀ sig, parseMethodDescriptor y.desc = some sig → argsL.length = sig.parameters.length) (hg : g.method = m) (hsize : g.locals.size = c.maxLocals) (hst : g.stack = argsL.reverse ++ rest)
    (hW : 2 * g.monitorRoom + (rest.map fun v => v.category).sum ≤ W) (hf : rm.frames + 1 ≤ R.frames) (hl : W + (maxL + 11) + rm.locals ≤ R.locals) (hc : cells + rm.cells ≤ R.cells) (hs : slots + rm.slots ≤ R.slots) (hd : decode c.code g.pc = .ok (.invokestatic index, 3))
    (k : ∀ (v : Option Value) (T' : State) (h' : Heap) (L : List Loc), Stand p l e R s m args below meth c T' (locs ++ L) (cells + rm.cells) (slots + rm.slots) → T'.heap = h' → Q v h' L → Go p.tables e below P T' { g with pc := g.pc + 3, stack := v.toList ++ rest }) : Go p.tables e below P T g := by
  obtain ⟨v, vm₁, B, q1, q2, q3, q4⟩ := Jvm.LawKit.callS X hx (y := y) (bytes := bytes) (maxL := maxL) (ret := ret) hown (mvT hZ w1) (mvT hZ w2) (mvT hZ w3) (mvT hZ w4) hy (backOf (W := W) (a0 := a0) hM hZ w4 w3 hf hl) (g := g) hg hsize (argsL := argsL) (rest := rest) hlen hst hW hd (fun _ _ => ⟨ha, eT, hc, hs⟩)
  exact Go.back (vs := as') (vm1 := fun _ => ⟨T, [], 0, 0⟩) ⟨v, vm₁, B, q1, q2, q3, q4 _ (Steps.refl _)⟩ k
theorem Go.callSp (X : Stand p l e R s m args below meth c T locs cells slots) (hx : p.tables.exec = Jvm.exec) (hZ : Z.Warmed39 s.vm) (hown : s.vm.findClass own = some m.cls) (eT : T.heap = h) (hy1 : y.name = "<init>")
    (w1 : (Cond.methodLink own index y).before a0 Z = true) (w2 : (Cond.instanceMethod y).before a0 Z = true) (w3 : (Cond.initialized y.cls).before a0 Z = true) (w4 : (Cond.code y bytes maxL none).before a0 Z = true) (hy : y.cls ≠ "java/lang/invoke/MethodHandle" ∧ y.cls ≠ "java/lang/invoke/VarHandle")
    {a : Addr} (hM : Con l Z y bytes maxL none [] rm as' h Q) (ha : (Value.ref a :: argsL).toArray = as') (hlen : ∀ sig, parseMethodDescriptor y.desc = some sig → argsL.length = sig.parameters.length) (hg : g.method = m) (hsize : g.locals.size = c.maxLocals) (hst : g.stack = argsL.reverse ++ .ref a :: rest)
    (hW : 2 * g.monitorRoom + (rest.map fun v => v.category).sum ≤ W) (hf : rm.frames + 1 ≤ R.frames) (hl : W + (maxL + 11) + rm.locals ≤ R.locals) (hc : cells + rm.cells ≤ R.cells) (hs : slots + rm.slots ≤ R.slots) (hd : decode c.code g.pc = .ok (.invokespecial index, 3))
    (k : ∀ (v : Option Value) (T' : State) (h' : Heap) (L : List Loc), Stand p l e R s m args below meth c T' (locs ++ L) (cells + rm.cells) (slots + rm.slots) → T'.heap = h' → Q v h' L → Go p.tables e below P T' { g with pc := g.pc + 3, stack := v.toList ++ rest }) : Go p.tables e below P T g := by
  exact Go.back (vs := as') (vm1 := fun _ => ⟨T, [], 0, 0⟩) (X.specialBack hx (y := y) hy1 hown (mvT hZ w1) (mvT hZ w2) (mvT hZ w4) hy (backOf (W := W) (a0 := a0) hM hZ w4 w3 hf hl) (g := g) hg hsize (Steps.refl _) (a := a) (argsL := argsL) (rest := rest) hlen hst hW hd (fun _ _ => ⟨ha, eT, hc, hs⟩)) k
theorem Go.callV (X : Stand p l e R s m args below meth c T locs cells slots) (hx : p.tables.exec = Jvm.exec) (hZ : Z.Warmed39 s.vm) (hown : s.vm.findClass own = some m.cls) (eT : T.heap = h)
    (w1 : (Cond.methodLink own index y).before a0 Z = true) (w2 : (Cond.declares y).before a0 Z = true) (w5 : (Cond.selects C y z).before a0 Z = true) (w6 : (Cond.instanceMethod z).before a0 Z = true) (w3 : (Cond.initialized z.cls).before a0 Z = true) (w4 : (Cond.code z bytes maxL ret).before a0 Z = true)
    (hnf : NotFace s y) (hy : y.cls ≠ "java/lang/invoke/MethodHandle" ∧ y.cls ≠ "java/lang/invoke/VarHandle")
    {a : Addr} (E : Exa Z h a C) (hM : Con l Z z bytes maxL ret [] rm as' h Q) (ha : (Value.ref a :: argsL).toArray = as') (hlen : ∀ sig, parseMethodDescriptor y.desc = some sig → argsL.length = sig.parameters.length) (hg : g.method = m) (hsize : g.locals.size = c.maxLocals) (hst : g.stack = argsL.reverse ++ .ref a :: rest)
    (hW : 2 * g.monitorRoom + (rest.map fun v => v.category).sum ≤ W) (hf : rm.frames + 1 ≤ R.frames) (hl : W + (maxL + 11) + rm.locals ≤ R.locals) (hc : cells + rm.cells ≤ R.cells) (hs : slots + rm.slots ≤ R.slots) (hd : decode c.code g.pc = .ok (.invokevirtual index, 3))
    (k : ∀ (v : Option Value) (T' : State) (h' : Heap) (L : List Loc), Stand p l e R s m args below meth c T' (locs ++ L) (cells + rm.cells) (slots + rm.slots) → T'.heap = h' → Q v h' L → Go p.tables e below P T' { g with pc := g.pc + 3, stack := v.toList ++ rest }) : Go p.tables e below P T g := by
  obtain ⟨cq, kq, qa, qb, qc⟩ := isOf hZ eT E
  exact Go.back (vs := as') (vm1 := fun _ => ⟨T, [], 0, 0⟩) (X.virtualBack hx (y := y) (z := z) hown (mvT hZ w1) (mvT hZ w2) hnf (mvT hZ w5) (mvT hZ w6) hy (backOf (W := W) (a0 := a0) hM hZ w4 w3 hf hl) qa qc (g := g) hg hsize (Steps.refl _) (argsL := argsL) (rest := rest) hlen hst hW hd (fun _ _ => ⟨ha, eT, hc, hs⟩)) k
theorem Go.callUp (X : Stand p l e R s m args below meth c T locs cells slots) (hx : p.tables.exec = Jvm.exec) (hZ : Z.Warmed39 s.vm) (hown : s.vm.findClass own = some m.cls) (eT : T.heap = h)
    (w1 : (Cond.methodLink own index y).before a0 Z = true) (w2 : (Cond.sameMethod y.cls owner y.name y.desc).before a0 Z = true) (w7 : (Cond.declares ⟨owner, y.name, y.desc⟩).before a0 Z = true) (hy : owner ≠ "java/lang/invoke/MethodHandle" ∧ owner ≠ "java/lang/invoke/VarHandle")
    (w5 : (Cond.selects C y z).before a0 Z = true) (w6 : (Cond.instanceMethod z).before a0 Z = true) (w3 : (Cond.initialized z.cls).before a0 Z = true) (w4 : (Cond.code z bytes maxL ret).before a0 Z = true)
    {a : Addr} (E : Exa Z h a C) (hM : Con l Z z bytes maxL ret [] rm as' h Q) (ha : (Value.ref a :: argsL).toArray = as') (hlen : ∀ sig, parseMethodDescriptor y.desc = some sig → argsL.length = sig.parameters.length) (hg : g.method = m) (hsize : g.locals.size = c.maxLocals) (hst : g.stack = argsL.reverse ++ .ref a :: rest)
    (hW : 2 * g.monitorRoom + (rest.map fun v => v.category).sum ≤ W) (hf : rm.frames + 1 ≤ R.frames) (hl : W + (maxL + 11) + rm.locals ≤ R.locals) (hc : cells + rm.cells ≤ R.cells) (hs : slots + rm.slots ≤ R.slots) (hd : decode c.code g.pc = .ok (.invokevirtual index, 3))
    (k : ∀ (v : Option Value) (T' : State) (h' : Heap) (L : List Loc), Stand p l e R s m args below meth c T' (locs ++ L) (cells + rm.cells) (slots + rm.slots) → T'.heap = h' → Q v h' L → Go p.tables e below P T' { g with pc := g.pc + 3, stack := v.toList ++ rest }) : Go p.tables e below P T g := by
  obtain ⟨cq, kq, qa, qb, qc⟩ := isOf hZ eT E
  exact Go.back (vs := as') (vm1 := fun _ => ⟨T, [], 0, 0⟩) (X.virtualBackUp hx (x := y) (y := z) hown (mvT hZ w1) (mvT hZ w2) (mvT hZ w7) hy (mvT hZ w5) (mvT hZ w6) (backOf (W := W) (a0 := a0) hM hZ w4 w3 hf hl) qa qc (g := g) hg hsize (Steps.refl _) (argsL := argsL) (rest := rest) hlen hst hW hd (fun _ _ => ⟨ha, eT, hc, hs⟩)) k
theorem ldCV (X : Stand p l e R s m args below meth c T locs cells slots) (hx : p.tables.exec = Jvm.exec) (hZ : Z.Warmed39 s.vm) (eT : T.heap = h) {a : Addr} {k : ClassId} {z : Int32} {vs : List Value} {d : Value} (F : Arv Z h a k .char z vs d) {j : Int32} (hj : ¬ j < 0 ∧ j < z) {v : Value} (hv : vs.getD j.toNatClampNeg d = v) {g : JFrame} (hg : g.method = m) {rest : List Value} (hs : g.stack = .int j :: .ref a :: rest) (hd : decode c.code g.pc = .ok (.caload, 1)) {target : State}
    (kk : Steps p.tables e below (T.setTop { g with pc := g.pc + 1, stack := v :: rest }) target) : Steps p.tables e below (T.setTop g) target := by
  obtain ⟨cl, A, q1, S, q3, H, G⟩ := F
  exact X.caload hx (j := j) (v := v) (by rw [eT]; exact A.1) (State.isArrayOf_alike hZ.alike A.2.1) A.2.2 (inb_of S hj) (H.at (inb_of S hj) hv) hg hs hd _ kk
theorem ldBV (X : Stand p l e R s m args below meth c T locs cells slots) (hx : p.tables.exec = Jvm.exec) (hZ : Z.Warmed39 s.vm) (eT : T.heap = h) {a : Addr} {k : ClassId} {z : Int32} {vs : List Value} {d : Value} (F : Arv Z h a k .byte z vs d) {j : Int32} (hj : ¬ j < 0 ∧ j < z) {v : Value} (hv : vs.getD j.toNatClampNeg d = v) {g : JFrame} (hg : g.method = m) {rest : List Value} (hs : g.stack = .int j :: .ref a :: rest) (hd : decode c.code g.pc = .ok (.baload, 1)) {target : State}
    (kk : Steps p.tables e below (T.setTop { g with pc := g.pc + 1, stack := v :: rest }) target) : Steps p.tables e below (T.setTop g) target := by
  obtain ⟨cl, A, q1, S, q3, H, G⟩ := F
  exact X.baloadBytes hx (j := j) (v := v) (by rw [eT]; exact A.1) (State.isArrayOf_alike hZ.alike A.2.1) A.2.2 (inb_of S hj) (H.at (inb_of S hj) hv) hg hs hd _ kk
theorem ldIV (X : Stand p l e R s m args below meth c T locs cells slots) (hx : p.tables.exec = Jvm.exec) (hZ : Z.Warmed39 s.vm) (eT : T.heap = h) {a : Addr} {k : ClassId} {z : Int32} {vs : List Value} {d : Value} (F : Arv Z h a k .int z vs d) {j : Int32} (hj : ¬ j < 0 ∧ j < z) {v : Value} (hv : vs.getD j.toNatClampNeg d = v) {g : JFrame} (hg : g.method = m) {rest : List Value} (hs : g.stack = .int j :: .ref a :: rest) (hd : decode c.code g.pc = .ok (.iaload, 1)) {target : State}
    (kk : Steps p.tables e below (T.setTop { g with pc := g.pc + 1, stack := v :: rest }) target) : Steps p.tables e below (T.setTop g) target := by
  obtain ⟨cl, A, q1, S, q3, H, G⟩ := F
  exact X.iaload hx (j := j) (v := v) (by rw [eT]; exact A.1) (State.isArrayOf_alike hZ.alike A.2.1) A.2.2 (inb_of S hj) (H.at (inb_of S hj) hv) hg hs hd _ kk
theorem ldRV (X : Stand p l e R s m args below meth c T locs cells slots) (hx : p.tables.exec = Jvm.exec) (hZ : Z.Warmed39 s.vm) (eT : T.heap = h) {a : Addr} {k : ClassId} {C : String} {z : Int32} {vs : List Value} {d : Value} (F : Arv Z h a k (.object C) z vs d) {j : Int32} (hj : ¬ j < 0 ∧ j < z) {v : Value} (hv : vs.getD j.toNatClampNeg d = v) {g : JFrame} (hg : g.method = m) {rest : List Value} (hs : g.stack = .int j :: .ref a :: rest) (hd : decode c.code g.pc = .ok (.aaload, 1)) {target : State}
    (kk : Steps p.tables e below (T.setTop { g with pc := g.pc + 1, stack := v :: rest }) target) : Steps p.tables e below (T.setTop g) target := by
  obtain ⟨cl, A, q1, S, q3, H, G⟩ := F
  exact X.aaload hx (j := j) (v := v) (by rw [eT]; exact A.1) (State.isArrayOf_alike hZ.alike A.2.1) rfl A.2.2 (inb_of S hj) (H.at (inb_of S hj) hv) hg hs hd _ kk
theorem lenV (X : Stand p l e R s m args below meth c T locs cells slots) (hx : p.tables.exec = Jvm.exec) (hZ : Z.Warmed39 s.vm) (eT : T.heap = h) {a : Addr} {k : ClassId} {ty : FieldType} {z : Int32} {vs : List Value} {d : Value} (F : Arv Z h a k ty z vs d) {g : JFrame} (hg : g.method = m) {rest : List Value} (hs : g.stack = .ref a :: rest) (hd : decode c.code g.pc = .ok (.arraylength, 1)) {target : State}
    (kk : Steps p.tables e below (T.setTop { g with pc := g.pc + 1, stack := .int z :: rest }) target) : Steps p.tables e below (T.setTop g) target := by
  obtain ⟨cl, A, q1, S, q3, H, G⟩ := F
  refine X.arraylength hx (by rw [eT]; exact A.1) (State.isArrayOf_alike hZ.alike A.2.1) hg hs hd _ ?_
  rw [len_of S q3]; exact kk
theorem stCV (X : Stand p l e R s m args below meth c T locs cells slots) (hx : p.tables.exec = Jvm.exec) (hZ : Z.Warmed39 s.vm) (eT : T.heap = h) {a : Addr} {k : ClassId} {z : Int32} {vs : List Value} {d : Value} (F : Arv Z h a k .char z vs d) {j x : Int32} {i : Nat} (hj : ¬ j < 0 ∧ j < z) (hi : j.toNatClampNeg = i) (hl : i < vs.length) {g : JFrame} (hg : g.method = m) {rest : List Value} (hs : g.stack = .int x :: .int j :: .ref a :: rest) (hd : decode c.code g.pc = .ok (.castore, 1)) :
    ∃ T' h', Stand p l e R s m args below meth c T' (locs ++ [⟨a, j.toNatClampNeg⟩]) cells slots ∧ T'.heap = h' ∧ Wr h h' a j.toNatClampNeg (.int (nar .char x)) ∧ Arv Z h' a k .char z (vs.set i (.int (nar .char x))) d ∧ ∀ target, Steps p.tables e below (T'.setTop { g with pc := g.pc + 1, stack := rest }) target → Steps p.tables e below (T.setTop g) target := by
  obtain ⟨cl, A, q1, S, q3, H, G⟩ := F
  obtain ⟨T', h', X', e', W, st⟩ := stC X hx hZ eT A (inb_of S hj) hg hs hd
  exact ⟨T', h', X', e', W, Arv.set A q1 S q3 H G (fits_nar_char _) W i hi hl, st⟩
theorem stBV (X : Stand p l e R s m args below meth c T locs cells slots) (hx : p.tables.exec = Jvm.exec) (hZ : Z.Warmed39 s.vm) (eT : T.heap = h) {a : Addr} {k : ClassId} {z : Int32} {vs : List Value} {d : Value} (F : Arv Z h a k .byte z vs d) {j x : Int32} {i : Nat} (hj : ¬ j < 0 ∧ j < z) (hi : j.toNatClampNeg = i) (hl : i < vs.length) {g : JFrame} (hg : g.method = m) {rest : List Value} (hs : g.stack = .int x :: .int j :: .ref a :: rest) (hd : decode c.code g.pc = .ok (.bastore, 1)) :
    ∃ T' h', Stand p l e R s m args below meth c T' (locs ++ [⟨a, j.toNatClampNeg⟩]) cells slots ∧ T'.heap = h' ∧ Wr h h' a j.toNatClampNeg (.int (nar .byte x)) ∧ Arv Z h' a k .byte z (vs.set i (.int (nar .byte x))) d ∧ ∀ target, Steps p.tables e below (T'.setTop { g with pc := g.pc + 1, stack := rest }) target → Steps p.tables e below (T.setTop g) target := by
  obtain ⟨cl, A, q1, S, q3, H, G⟩ := F
  obtain ⟨T', h', X', e', W, st⟩ := stB X hx hZ eT A (inb_of S hj) hg hs hd
  exact ⟨T', h', X', e', W, Arv.set A q1 S q3 H G (fits_nar_byte _) W i hi hl, st⟩
theorem eqv_r {Z : State} {args : Array Value} {X F : Term} {idx : List Nat} {y : Addr} (hF : F.eval args Z none idx Z = some (.ref y)) (h : (Cond.eq X F).value args Z none Z idx = some true) : X.eval args Z none idx Z = some (.ref y) := by
  cases hX : X.eval args Z none idx Z with
  | none => simp [Cond.value, hX] at h
  | some v => cases v <;> simp [Cond.value, hX, hF] at h ⊢; exact h
theorem Arv.startL {Z : State} {args : Array Value} {t : Term} {a : Addr} {ty : FieldType} {z : Int32} {vs : List Value} {dv : Value} (hf : Fit Z) (et : t.eval args Z none [] Z = some (.ref a)) (ha : (Cond.arrayOf t ty).value args Z none Z [] = some true) (hl : (Cond.eq (.length t) (.int z)).value args Z none Z [] = some true)
    (hz : ¬ z < 0) (hn : z.toNatClampNeg = vs.length) (H : ∀ c, Z.heap[a]? = some c → HasL c 0 vs) : ∃ k, Arv Z Z.heap a k ty z vs dv := by
  obtain ⟨c, A⟩ := Arr.start et ha
  obtain ⟨b, cell, e1, e2, e3, e4⟩ := Jvm.Lib.length_spec (eqv_i rfl hl)
  cases et.symm.trans e1
  cases (A.fin (Vm.Alike.refl _)).symm.trans e2
  exact ⟨c.cls, Arv.start hf A e3 (Value.int.inj e4).symm hz hn (H c A.1)⟩
theorem Keep.toExt (K : Keep h h' []) : Ext h h' := ⟨K.1, fun a c q => K.2.1 a c q (fun z => nomatch z)⟩
theorem Ext.toKeep (E : Ext h h') : Keep h h' [] := ⟨E.1, fun a c q _ => E.2 a c q, fun a c q => ⟨c, E.2 a c q, rfl, rfl, rfl⟩⟩
theorem Ext.refl (h : Heap) : Ext h h := ⟨Nat.le_refl _, fun _ _ q => q⟩
theorem Ext.tr {h2 : Heap} (A : Ext h h') (B : Ext h' h2) : Ext h h2 := ⟨Nat.le_trans A.1 B.1, fun a c q => B.2 a c (A.2 a c q)⟩
theorem Ext.thenK {h2 : Heap} {ws : List Addr} (A : Ext h h') (K : Keep h' h2 ws) (q : ∀ x ∈ ws, h.size ≤ x) : Ext h h2 := (A.toKeep.trans K fun x hx => Or.inr (q x hx)).toExt
theorem Ext.thenW {h2 : Heap} {a : Addr} {sl : Nat} {v : Value} (A : Ext h h') (W : Wr h' h2 a sl v) (q : h.size ≤ a) : Ext h h2 := (A.toKeep.wr W (Or.inr q)).toExt
theorem i2c_id {x : Int32} (h : 0 ≤ x.toInt ∧ x.toInt < 65536) : x.toUInt32.toUInt16.toUInt32.toInt32 = x := by
  have q := c_i2c x
  exact Int32.toInt_inj.mp (by omega)
theorem i2b_id {x : Int32} (h : -128 ≤ x.toInt ∧ x.toInt < 128) : x.toInt8.toInt32 = x := by
  have q := c_i2b x
  exact Int32.toInt_inj.mp (by omega)
theorem nar_b {x : Int32} : nar .byte (x.toInt8.toInt32) = x.toInt8.toInt32 := i2b_id (c_i2b x).2
theorem nar_c {x : Int32} : nar .char (x.toUInt32.toUInt16.toUInt32.toInt32) = x.toUInt32.toUInt16.toUInt32.toInt32 := i2c_id (c_i2c x).2
theorem nar_cid {x : Int32} (h : 0 ≤ x.toInt ∧ x.toInt < 65536) : nar .char x = x := i2c_id h
theorem and255 (x : Int32) : 0 ≤ ((x &&& 255).toUInt32.toUInt16.toUInt32.toInt32).toInt ∧ ((x &&& 255).toUInt32.toUInt16.toUInt32.toInt32).toInt ≤ 255 := by
  have h := c_mask x 255 8 (by decide) (by decide)
  have q := c_i2c (x &&& 255)
  omega
theorem le255 {x : Int32} (h : 0 ≤ x.toInt ∧ x.toInt ≤ 255) : ¬ (255 : Int32) < x := by rw [Int32.lt_iff_toInt_lt]; have : (255 : Int32).toInt = 255 := rfl; omega
theorem ne_lt {x b i j : Nat} (h1 : x < i) (h2 : i ≤ j) (h3 : j ≤ b) : x ≠ b := by omega
theorem own_add0 (n : Nat) : n + 0 = n := rfl
end OwnGo
end Jvm.RoadKit
namespace Jvm.Pilot.@@N@@
open Jvm Jvm.ClassFile Sem Op Lib Jvm.Free Jvm.Stand Jvm.LawKit Jvm.RoadKit Bundle Jvm.Pilot.@@N@@.Jvm.D
theorem d3_0 : decode jdk_30_method_1_code 0 = .ok (.aload_n 0, 1) := by decide +kernel
theorem d3_1 : decode jdk_30_method_1_code 1 = .ok (.invokespecial 1, 3) := by decide +kernel
theorem w21 {a0 : Array Value} {Z : State} (hw : ∀ d ∈ tables_1, d.before a0 Z = true) : ((Jvm.Cond.methodLink "java/lang/Record" (1 : Nat) ({ cls := "java/lang/Object", name := "<init>", desc := "()V" } : Jvm.MethodName))).before a0 Z = true := hw _ (List.mem_of_getElem? (i := 21) rfl)
theorem w22 {a0 : Array Value} {Z : State} (hw : ∀ d ∈ tables_1, d.before a0 Z = true) : ((Jvm.Cond.instanceMethod ({ cls := "java/lang/Object", name := "<init>", desc := "()V" } : Jvm.MethodName))).before a0 Z = true := hw _ (List.mem_of_getElem? (i := 22) rfl)
theorem w23 {a0 : Array Value} {Z : State} (hw : ∀ d ∈ tables_1, d.before a0 Z = true) : ((Jvm.Cond.code ({ cls := "java/lang/Object", name := "<init>", desc := "()V" } : Jvm.MethodName) object_method_1_code (1 : Nat) (Option.none : Option Jvm.ClassFile.FieldType))).before a0 Z = true := hw _ (List.mem_of_getElem? (i := 23) rfl)
theorem d3_4 : decode jdk_30_method_1_code 4 = .ok (.return_, 1) := by decide +kernel
def rr_recInit : Room := { frames := 1, cells := 0, slots := 0, locals := 12 }
theorem pn0 : plainName "java/lang/Record" = true := by first | (simp [plainName, overriddenIn]; done) | decide +kernel
set_option maxRecDepth 65536 in
set_option maxHeartbeats 40000000 in
theorem rm_recInit (l : Launch) (Z : State) (a0 : Array Value) (hw : ∀ d ∈ tables_1, d.before a0 Z = true) (ws : List Jvm.Cond) (a1 : Addr) (h0 : Heap) (n0 : Nat) (Z0 : n0 ≤ h0.size)  :
    Con l Z (⟨"java/lang/Record", "<init>", "()V"⟩ : MethodName) jdk_30_method_1_code 1 none ws rr_recInit #[(.ref a1)] h0 (fun v h L => v = none ∧ Fr n0 L ∧ h = h0) := by
  refine Con.enter (plainFor_of_name pn0) ?_
  intro p e s m below meth c s₁ X0 hx hZ hby hml hret hlk hown hnm e0
  have N0 := Fr.nil n0
  refine Go.cast (g' := (mkF m 0 #[.val (.ref a1)] [])) (by first | rfl | (simp [entryFrame, mkF, argsToLocals, Value.category]; done)) ?_
  refine Go.st (T' := s₁) (g' := (mkF m 1 #[.val (.ref a1)] [(.ref a1)])) (fun _ zk => XS.aloadN X0.here hx rfl (hb hby d3_0) rfl rfl zk) ?_
  obtain ⟨T1, X1, e1, st1⟩ := initO X0 hx hZ hown (w21 hw) (w22 hw) (w23 hw) e0 (g := (mkF m 1 #[.val (.ref a1)] [(.ref a1)])) rfl (by rw [hml]; rfl) rfl (hb hby d3_1) (by decide) (W := 0) (by show 2 * 0 + _ ≤ _; exact Nat.le_of_eq rfl) (by decide)
  refine Go.st (T' := T1) (g' := (mkF m 4 #[.val (.ref a1)] [])) (fun _ zk => st1 _ zk) ?_
  refine Go.retV X1 hx hlk hret (hb hby d3_4) (by decide) (by decide) e1 ?_
  exact ⟨rfl, N0, rfl⟩
theorem d2_0 : decode prog_21_method_1_code 0 = .ok (.aload_n 0, 1) := by decide +kernel
theorem w20 {a0 : Array Value} {Z : State} (hw : ∀ d ∈ tables_1, d.before a0 Z = true) : ((Jvm.Cond.code ({ cls := "java/lang/Record", name := "<init>", desc := "()V" } : Jvm.MethodName) jdk_30_method_1_code (1 : Nat) (Option.none : Option Jvm.ClassFile.FieldType))).before a0 Z = true := hw _ (List.mem_of_getElem? (i := 20) rfl)
theorem w19 {a0 : Array Value} {Z : State} (hw : ∀ d ∈ tables_1, d.before a0 Z = true) : ((Jvm.Cond.initialized "java/lang/Record")).before a0 Z = true := hw _ (List.mem_of_getElem? (i := 19) rfl)
theorem pd1 : parseMethodDescriptor "()V" = some ⟨[], none⟩ := by decide +kernel
theorem d2_1 : decode prog_21_method_1_code 1 = .ok (.invokespecial 1, 3) := by decide +kernel
theorem w16 {a0 : Array Value} {Z : State} (hw : ∀ d ∈ tables_1, d.before a0 Z = true) : ((Jvm.Cond.methodLink "com/example/attestry/attestry/bundle/ConditionPredicate" (1 : Nat) ({ cls := "java/lang/Record", name := "<init>", desc := "()V" } : Jvm.MethodName))).before a0 Z = true := hw _ (List.mem_of_getElem? (i := 16) rfl)
theorem w17 {a0 : Array Value} {Z : State} (hw : ∀ d ∈ tables_1, d.before a0 Z = true) : ((Jvm.Cond.instanceMethod ({ cls := "java/lang/Record", name := "<init>", desc := "()V" } : Jvm.MethodName))).before a0 Z = true := hw _ (List.mem_of_getElem? (i := 17) rfl)
theorem d2_4 : decode prog_21_method_1_code 4 = .ok (.aload_n 0, 1) := by decide +kernel
theorem d2_5 : decode prog_21_method_1_code 5 = .ok (.aload_n 1, 1) := by decide +kernel
theorem d2_6 : decode prog_21_method_1_code 6 = .ok (.putfield 7, 3) := by decide +kernel
theorem w24 {a0 : Array Value} {Z : State} (hw : ∀ d ∈ tables_1, d.before a0 Z = true) : ((Jvm.Cond.fieldLink "com/example/attestry/attestry/bundle/ConditionPredicate" (7 : Nat) "com/example/attestry/attestry/bundle/ConditionPredicate" "id" "Ljava/lang/String;")).before a0 Z = true := hw _ (List.mem_of_getElem? (i := 24) rfl)
theorem w11 {a0 : Array Value} {Z : State} (hw : ∀ d ∈ tables_1, d.before a0 Z = true) : ((Jvm.Cond.instantiable "com/example/attestry/attestry/bundle/ConditionPredicate" (5 : Nat))).before a0 Z = true := hw _ (List.mem_of_getElem? (i := 11) rfl)
theorem w25 {a0 : Array Value} {Z : State} (hw : ∀ d ∈ tables_1, d.before a0 Z = true) : ((Jvm.Cond.laysFinal "com/example/attestry/attestry/bundle/ConditionPredicate" "com/example/attestry/attestry/bundle/ConditionPredicate" "id" "Ljava/lang/String;")).before a0 Z = true := hw _ (List.mem_of_getElem? (i := 25) rfl)
theorem d2_9 : decode prog_21_method_1_code 9 = .ok (.aload_n 0, 1) := by decide +kernel
theorem d2_10 : decode prog_21_method_1_code 10 = .ok (.aload_n 2, 1) := by decide +kernel
theorem d2_11 : decode prog_21_method_1_code 11 = .ok (.putfield 13, 3) := by decide +kernel
theorem w26 {a0 : Array Value} {Z : State} (hw : ∀ d ∈ tables_1, d.before a0 Z = true) : ((Jvm.Cond.fieldLink "com/example/attestry/attestry/bundle/ConditionPredicate" (13 : Nat) "com/example/attestry/attestry/bundle/ConditionPredicate" "target" "Lcom/example/attestry/attestry/bundle/RulePlace;")).before a0 Z = true := hw _ (List.mem_of_getElem? (i := 26) rfl)
theorem w27 {a0 : Array Value} {Z : State} (hw : ∀ d ∈ tables_1, d.before a0 Z = true) : ((Jvm.Cond.laysFinal "com/example/attestry/attestry/bundle/ConditionPredicate" "com/example/attestry/attestry/bundle/ConditionPredicate" "target" "Lcom/example/attestry/attestry/bundle/RulePlace;")).before a0 Z = true := hw _ (List.mem_of_getElem? (i := 27) rfl)
theorem d2_14 : decode prog_21_method_1_code 14 = .ok (.aload_n 0, 1) := by decide +kernel
theorem d2_15 : decode prog_21_method_1_code 15 = .ok (.aload_n 3, 1) := by decide +kernel
theorem d2_16 : decode prog_21_method_1_code 16 = .ok (.putfield 17, 3) := by decide +kernel
theorem w28 {a0 : Array Value} {Z : State} (hw : ∀ d ∈ tables_1, d.before a0 Z = true) : ((Jvm.Cond.fieldLink "com/example/attestry/attestry/bundle/ConditionPredicate" (17 : Nat) "com/example/attestry/attestry/bundle/ConditionPredicate" "when" "Lcom/example/attestry/attestry/bundle/Condition;")).before a0 Z = true := hw _ (List.mem_of_getElem? (i := 28) rfl)
theorem w29 {a0 : Array Value} {Z : State} (hw : ∀ d ∈ tables_1, d.before a0 Z = true) : ((Jvm.Cond.laysFinal "com/example/attestry/attestry/bundle/ConditionPredicate" "com/example/attestry/attestry/bundle/ConditionPredicate" "when" "Lcom/example/attestry/attestry/bundle/Condition;")).before a0 Z = true := hw _ (List.mem_of_getElem? (i := 29) rfl)
theorem d2_19 : decode prog_21_method_1_code 19 = .ok (.aload_n 0, 1) := by decide +kernel
theorem d2_20 : decode prog_21_method_1_code 20 = .ok (.aload 4, 2) := by decide +kernel
theorem d2_22 : decode prog_21_method_1_code 22 = .ok (.putfield 21, 3) := by decide +kernel
theorem w30 {a0 : Array Value} {Z : State} (hw : ∀ d ∈ tables_1, d.before a0 Z = true) : ((Jvm.Cond.fieldLink "com/example/attestry/attestry/bundle/ConditionPredicate" (21 : Nat) "com/example/attestry/attestry/bundle/ConditionPredicate" "whenHolds" "Lcom/example/attestry/attestry/bundle/Usage;")).before a0 Z = true := hw _ (List.mem_of_getElem? (i := 30) rfl)
theorem w31 {a0 : Array Value} {Z : State} (hw : ∀ d ∈ tables_1, d.before a0 Z = true) : ((Jvm.Cond.laysFinal "com/example/attestry/attestry/bundle/ConditionPredicate" "com/example/attestry/attestry/bundle/ConditionPredicate" "whenHolds" "Lcom/example/attestry/attestry/bundle/Usage;")).before a0 Z = true := hw _ (List.mem_of_getElem? (i := 31) rfl)
theorem d2_25 : decode prog_21_method_1_code 25 = .ok (.aload_n 0, 1) := by decide +kernel
theorem d2_26 : decode prog_21_method_1_code 26 = .ok (.aload 5, 2) := by decide +kernel
theorem d2_28 : decode prog_21_method_1_code 28 = .ok (.putfield 25, 3) := by decide +kernel
theorem w32 {a0 : Array Value} {Z : State} (hw : ∀ d ∈ tables_1, d.before a0 Z = true) : ((Jvm.Cond.fieldLink "com/example/attestry/attestry/bundle/ConditionPredicate" (25 : Nat) "com/example/attestry/attestry/bundle/ConditionPredicate" "otherwise" "Lcom/example/attestry/attestry/bundle/Usage;")).before a0 Z = true := hw _ (List.mem_of_getElem? (i := 32) rfl)
theorem w33 {a0 : Array Value} {Z : State} (hw : ∀ d ∈ tables_1, d.before a0 Z = true) : ((Jvm.Cond.laysFinal "com/example/attestry/attestry/bundle/ConditionPredicate" "com/example/attestry/attestry/bundle/ConditionPredicate" "otherwise" "Lcom/example/attestry/attestry/bundle/Usage;")).before a0 Z = true := hw _ (List.mem_of_getElem? (i := 33) rfl)
theorem d2_31 : decode prog_21_method_1_code 31 = .ok (.return_, 1) := by decide +kernel
def rr_cpInit : Room := { frames := 2, cells := 0, slots := 0, locals := 24 }
theorem pn2 : plainName "com/example/attestry/attestry/bundle/ConditionPredicate" = true := by first | (simp [plainName, overriddenIn]; done) | decide +kernel
set_option maxRecDepth 65536 in
set_option maxHeartbeats 40000000 in
theorem rm_cpInit (l : Launch) (Z : State) (a0 : Array Value) (hw : ∀ d ∈ tables_1, d.before a0 Z = true) (ws : List Jvm.Cond) (a1 : Addr) (u w : Addr) (h0 : Heap) (n0 : Nat) (Z0 : n0 ≤ h0.size) (E0 : Exa Z h0 a1 "com/example/attestry/attestry/bundle/ConditionPredicate") (g0 : n0 ≤ a1) (F0_0 : Fld Z h0 a1 "com/example/attestry/attestry/bundle/ConditionPredicate" "id" "Ljava/lang/String;" .null) (F0_1 : Fld Z h0 a1 "com/example/attestry/attestry/bundle/ConditionPredicate" "target" "Lcom/example/attestry/attestry/bundle/RulePlace;" .null) (F0_2 : Fld Z h0 a1 "com/example/attestry/attestry/bundle/ConditionPredicate" "when" "Lcom/example/attestry/attestry/bundle/Condition;" .null) (F0_3 : Fld Z h0 a1 "com/example/attestry/attestry/bundle/ConditionPredicate" "whenHolds" "Lcom/example/attestry/attestry/bundle/Usage;" .null) (F0_4 : Fld Z h0 a1 "com/example/attestry/attestry/bundle/ConditionPredicate" "otherwise" "Lcom/example/attestry/attestry/bundle/Usage;" .null) :
    Con l Z (⟨"com/example/attestry/attestry/bundle/ConditionPredicate", "<init>", "(Ljava/lang/String;Lcom/example/attestry/attestry/bundle/RulePlace;Lcom/example/attestry/attestry/bundle/Condition;Lcom/example/attestry/attestry/bundle/Usage;Lcom/example/attestry/attestry/bundle/Usage;)V"⟩ : MethodName) prog_21_method_1_code 6 none ws rr_cpInit #[(.ref a1), .null, .null, .null, (.ref u), (.ref w)] h0 (fun v h L => v = none ∧ Fr n0 L ∧ Keep h0 h [a1] ∧ Fld Z h a1 "com/example/attestry/attestry/bundle/ConditionPredicate" "id" "Ljava/lang/String;" .null ∧ Fld Z h a1 "com/example/attestry/attestry/bundle/ConditionPredicate" "target" "Lcom/example/attestry/attestry/bundle/RulePlace;" .null ∧ Fld Z h a1 "com/example/attestry/attestry/bundle/ConditionPredicate" "when" "Lcom/example/attestry/attestry/bundle/Condition;" .null ∧ Fld Z h a1 "com/example/attestry/attestry/bundle/ConditionPredicate" "whenHolds" "Lcom/example/attestry/attestry/bundle/Usage;" (.ref u) ∧ Fld Z h a1 "com/example/attestry/attestry/bundle/ConditionPredicate" "otherwise" "Lcom/example/attestry/attestry/bundle/Usage;" (.ref w)) := by
  refine Con.enter (plainFor_of_name pn2) ?_
  intro p e s m below meth c s₁ X0 hx hZ hby hml hret hlk hown hnm e0
  have N0 := Fr.nil n0
  refine Go.cast (g' := (mkF m 0 #[.val (.ref a1), .val .null, .val .null, .val .null, .val (.ref u), .val (.ref w)] [])) (by first | rfl | (simp [entryFrame, mkF, argsToLocals, Value.category]; done)) ?_
  refine Go.st (T' := s₁) (g' := (mkF m 1 #[.val (.ref a1), .val .null, .val .null, .val .null, .val (.ref u), .val (.ref w)] [(.ref a1)])) (fun _ zk => XS.aloadN X0.here hx rfl (hb hby d2_0) rfl rfl zk) ?_
  refine Go.callSp (y := (⟨"java/lang/Record", "<init>", "()V"⟩ : MethodName)) (a := a1) X0 hx hZ hown e0 rfl (w16 hw) (w17 hw) (w19 hw) (w20 hw) (by decide) (argsL := []) (rest := []) (W := 0) (rm_recInit l Z a0 hw [] a1 h0 n0 Z0 ) rfl (lenOf pd1 rfl) rfl (by rw [hml]; rfl) rfl (by show 2 * 0 + _ ≤ _; exact Nat.le_of_eq rfl) (by decide) (by decide) (by decide) (by decide) (hb hby d2_1) ?_
  intro v1 T1 h1 L1 X1 e1 q1
  obtain ⟨hv1, Nf1, hh1⟩ := q1
  subst hv1
  have E1 : T1.heap = h0 := e1.trans hh1
  have N1 := Fr.app N0 Nf1
  show Go p.tables e below _ T1 (mkF m 4 #[.val (.ref a1), .val .null, .val .null, .val .null, .val (.ref u), .val (.ref w)] [])
  refine Go.st (T' := T1) (g' := (mkF m 5 #[.val (.ref a1), .val .null, .val .null, .val .null, .val (.ref u), .val (.ref w)] [(.ref a1)])) (fun _ zk => XS.aloadN X1.here hx rfl (hb hby d2_4) rfl rfl zk) ?_
  refine Go.st (T' := T1) (g' := (mkF m 6 #[.val (.ref a1), .val .null, .val .null, .val .null, .val (.ref u), .val (.ref w)] [.null, (.ref a1)])) (fun _ zk => XS.aloadN X1.here hx rfl (hb hby d2_5) rfl rfl zk) ?_
  obtain ⟨T2, h2, X2, e2, W2, st2⟩ := putF X1 hx hZ hown (host := "") (Or.inl (w24 hw)) Via.refl E1 F0_0 E0 (Or.inr ⟨(w25 hw), rfl, hnm⟩) (w11 hw) (ty := (.object "java/lang/String")) (by decide) rfl rfl (g := (mkF m 6 #[.val (.ref a1), .val .null, .val .null, .val .null, .val (.ref u), .val (.ref w)] [.null, (.ref a1)])) rfl rfl (hb hby d2_6)
  have F2 := F0_0.same W2
  have N2 := Fr.snoc X2 N1 g0
  refine Go.st (T' := T2) (g' := (mkF m 9 #[.val (.ref a1), .val .null, .val .null, .val .null, .val (.ref u), .val (.ref w)] [])) (fun _ zk => st2 _ zk) ?_
  refine Go.st (T' := T2) (g' := (mkF m 10 #[.val (.ref a1), .val .null, .val .null, .val .null, .val (.ref u), .val (.ref w)] [(.ref a1)])) (fun _ zk => XS.aloadN X2.here hx rfl (hb hby d2_9) rfl rfl zk) ?_
  refine Go.st (T' := T2) (g' := (mkF m 11 #[.val (.ref a1), .val .null, .val .null, .val .null, .val (.ref u), .val (.ref w)] [.null, (.ref a1)])) (fun _ zk => XS.aloadN X2.here hx rfl (hb hby d2_10) rfl rfl zk) ?_
  have f4 := (F0_1.other W2 (Or.inr (slot_ne (Or.inr (w27 hw)) (Or.inr (w25 hw)) (by decide) (t := (.object "com/example/attestry/attestry/bundle/RulePlace")) (t' := (.object "java/lang/String")) (by decide) (by decide))))
  have f5 := (E0.wr W2)
  obtain ⟨T3, h3, X3, e3, W3, st3⟩ := putF X2 hx hZ hown (host := "") (Or.inl (w26 hw)) Via.refl e2 f4 f5 (Or.inr ⟨(w27 hw), rfl, hnm⟩) (w11 hw) (ty := (.object "com/example/attestry/attestry/bundle/RulePlace")) (by decide) rfl rfl (g := (mkF m 11 #[.val (.ref a1), .val .null, .val .null, .val .null, .val (.ref u), .val (.ref w)] [.null, (.ref a1)])) rfl rfl (hb hby d2_11)
  have F3 := f4.same W3
  have N3 := Fr.snoc X3 N2 g0
  refine Go.st (T' := T3) (g' := (mkF m 14 #[.val (.ref a1), .val .null, .val .null, .val .null, .val (.ref u), .val (.ref w)] [])) (fun _ zk => st3 _ zk) ?_
  refine Go.st (T' := T3) (g' := (mkF m 15 #[.val (.ref a1), .val .null, .val .null, .val .null, .val (.ref u), .val (.ref w)] [(.ref a1)])) (fun _ zk => XS.aloadN X3.here hx rfl (hb hby d2_14) rfl rfl zk) ?_
  refine Go.st (T' := T3) (g' := (mkF m 16 #[.val (.ref a1), .val .null, .val .null, .val .null, .val (.ref u), .val (.ref w)] [.null, (.ref a1)])) (fun _ zk => XS.aloadN X3.here hx rfl (hb hby d2_15) rfl rfl zk) ?_
  have f7 := ((F0_2.other W2 (Or.inr (slot_ne (Or.inr (w29 hw)) (Or.inr (w25 hw)) (by decide) (t := (.object "com/example/attestry/attestry/bundle/Condition")) (t' := (.object "java/lang/String")) (by decide) (by decide)))).other W3 (Or.inr (slot_ne (Or.inr (w29 hw)) (Or.inr (w27 hw)) (by decide) (t := (.object "com/example/attestry/attestry/bundle/Condition")) (t' := (.object "com/example/attestry/attestry/bundle/RulePlace")) (by decide) (by decide))))
  have f8 := (f5.wr W3)
  obtain ⟨T6, h6, X6, e6, W6, st6⟩ := putF X3 hx hZ hown (host := "") (Or.inl (w28 hw)) Via.refl e3 f7 f8 (Or.inr ⟨(w29 hw), rfl, hnm⟩) (w11 hw) (ty := (.object "com/example/attestry/attestry/bundle/Condition")) (by decide) rfl rfl (g := (mkF m 16 #[.val (.ref a1), .val .null, .val .null, .val .null, .val (.ref u), .val (.ref w)] [.null, (.ref a1)])) rfl rfl (hb hby d2_16)
  have F6 := f7.same W6
  have N6 := Fr.snoc X6 N3 g0
  refine Go.st (T' := T6) (g' := (mkF m 19 #[.val (.ref a1), .val .null, .val .null, .val .null, .val (.ref u), .val (.ref w)] [])) (fun _ zk => st6 _ zk) ?_
  refine Go.st (T' := T6) (g' := (mkF m 20 #[.val (.ref a1), .val .null, .val .null, .val .null, .val (.ref u), .val (.ref w)] [(.ref a1)])) (fun _ zk => XS.aloadN X6.here hx rfl (hb hby d2_19) rfl rfl zk) ?_
  refine Go.st (T' := T6) (g' := (mkF m 22 #[.val (.ref a1), .val .null, .val .null, .val .null, .val (.ref u), .val (.ref w)] [(.ref u), (.ref a1)])) (fun _ zk => XS.aload X6.here hx rfl (hb hby d2_20) rfl rfl zk) ?_
  have f10 := (((F0_3.other W2 (Or.inr (slot_ne (Or.inr (w31 hw)) (Or.inr (w25 hw)) (by decide) (t := (.object "com/example/attestry/attestry/bundle/Usage")) (t' := (.object "java/lang/String")) (by decide) (by decide)))).other W3 (Or.inr (slot_ne (Or.inr (w31 hw)) (Or.inr (w27 hw)) (by decide) (t := (.object "com/example/attestry/attestry/bundle/Usage")) (t' := (.object "com/example/attestry/attestry/bundle/RulePlace")) (by decide) (by decide)))).other W6 (Or.inr (slot_ne (Or.inr (w31 hw)) (Or.inr (w29 hw)) (by decide) (t := (.object "com/example/attestry/attestry/bundle/Usage")) (t' := (.object "com/example/attestry/attestry/bundle/Condition")) (by decide) (by decide))))
  have f11 := (f8.wr W6)
  obtain ⟨T9, h9, X9, e9, W9, st9⟩ := putF X6 hx hZ hown (host := "") (Or.inl (w30 hw)) Via.refl e6 f10 f11 (Or.inr ⟨(w31 hw), rfl, hnm⟩) (w11 hw) (ty := (.object "com/example/attestry/attestry/bundle/Usage")) (by decide) rfl rfl (g := (mkF m 22 #[.val (.ref a1), .val .null, .val .null, .val .null, .val (.ref u), .val (.ref w)] [(.ref u), (.ref a1)])) rfl rfl (hb hby d2_22)
  have F9 := f10.same W9
  have N9 := Fr.snoc X9 N6 g0
  refine Go.st (T' := T9) (g' := (mkF m 25 #[.val (.ref a1), .val .null, .val .null, .val .null, .val (.ref u), .val (.ref w)] [])) (fun _ zk => st9 _ zk) ?_
  refine Go.st (T' := T9) (g' := (mkF m 26 #[.val (.ref a1), .val .null, .val .null, .val .null, .val (.ref u), .val (.ref w)] [(.ref a1)])) (fun _ zk => XS.aloadN X9.here hx rfl (hb hby d2_25) rfl rfl zk) ?_
  refine Go.st (T' := T9) (g' := (mkF m 28 #[.val (.ref a1), .val .null, .val .null, .val .null, .val (.ref u), .val (.ref w)] [(.ref w), (.ref a1)])) (fun _ zk => XS.aload X9.here hx rfl (hb hby d2_26) rfl rfl zk) ?_
  have f13 := ((((F0_4.other W2 (Or.inr (slot_ne (Or.inr (w33 hw)) (Or.inr (w25 hw)) (by decide) (t := (.object "com/example/attestry/attestry/bundle/Usage")) (t' := (.object "java/lang/String")) (by decide) (by decide)))).other W3 (Or.inr (slot_ne (Or.inr (w33 hw)) (Or.inr (w27 hw)) (by decide) (t := (.object "com/example/attestry/attestry/bundle/Usage")) (t' := (.object "com/example/attestry/attestry/bundle/RulePlace")) (by decide) (by decide)))).other W6 (Or.inr (slot_ne (Or.inr (w33 hw)) (Or.inr (w29 hw)) (by decide) (t := (.object "com/example/attestry/attestry/bundle/Usage")) (t' := (.object "com/example/attestry/attestry/bundle/Condition")) (by decide) (by decide)))).other W9 (Or.inr (slot_ne (Or.inr (w33 hw)) (Or.inr (w31 hw)) (by decide) (t := (.object "com/example/attestry/attestry/bundle/Usage")) (t' := (.object "com/example/attestry/attestry/bundle/Usage")) (by decide) (by decide))))
  have f14 := (f11.wr W9)
  obtain ⟨T12, h12, X12, e12, W12, st12⟩ := putF X9 hx hZ hown (host := "") (Or.inl (w32 hw)) Via.refl e9 f13 f14 (Or.inr ⟨(w33 hw), rfl, hnm⟩) (w11 hw) (ty := (.object "com/example/attestry/attestry/bundle/Usage")) (by decide) rfl rfl (g := (mkF m 28 #[.val (.ref a1), .val .null, .val .null, .val .null, .val (.ref u), .val (.ref w)] [(.ref w), (.ref a1)])) rfl rfl (hb hby d2_28)
  have F12 := f13.same W12
  have N12 := Fr.snoc X12 N9 g0
  refine Go.st (T' := T12) (g' := (mkF m 31 #[.val (.ref a1), .val .null, .val .null, .val .null, .val (.ref u), .val (.ref w)] [])) (fun _ zk => st12 _ zk) ?_
  have f15 := ((((F2.other W3 (Or.inr (slot_ne (Or.inr (w25 hw)) (Or.inr (w27 hw)) (by decide) (t := (.object "java/lang/String")) (t' := (.object "com/example/attestry/attestry/bundle/RulePlace")) (by decide) (by decide)))).other W6 (Or.inr (slot_ne (Or.inr (w25 hw)) (Or.inr (w29 hw)) (by decide) (t := (.object "java/lang/String")) (t' := (.object "com/example/attestry/attestry/bundle/Condition")) (by decide) (by decide)))).other W9 (Or.inr (slot_ne (Or.inr (w25 hw)) (Or.inr (w31 hw)) (by decide) (t := (.object "java/lang/String")) (t' := (.object "com/example/attestry/attestry/bundle/Usage")) (by decide) (by decide)))).other W12 (Or.inr (slot_ne (Or.inr (w25 hw)) (Or.inr (w33 hw)) (by decide) (t := (.object "java/lang/String")) (t' := (.object "com/example/attestry/attestry/bundle/Usage")) (by decide) (by decide))))
  have f16 := (((F3.other W6 (Or.inr (slot_ne (Or.inr (w27 hw)) (Or.inr (w29 hw)) (by decide) (t := (.object "com/example/attestry/attestry/bundle/RulePlace")) (t' := (.object "com/example/attestry/attestry/bundle/Condition")) (by decide) (by decide)))).other W9 (Or.inr (slot_ne (Or.inr (w27 hw)) (Or.inr (w31 hw)) (by decide) (t := (.object "com/example/attestry/attestry/bundle/RulePlace")) (t' := (.object "com/example/attestry/attestry/bundle/Usage")) (by decide) (by decide)))).other W12 (Or.inr (slot_ne (Or.inr (w27 hw)) (Or.inr (w33 hw)) (by decide) (t := (.object "com/example/attestry/attestry/bundle/RulePlace")) (t' := (.object "com/example/attestry/attestry/bundle/Usage")) (by decide) (by decide))))
  have f17 := ((F6.other W9 (Or.inr (slot_ne (Or.inr (w29 hw)) (Or.inr (w31 hw)) (by decide) (t := (.object "com/example/attestry/attestry/bundle/Condition")) (t' := (.object "com/example/attestry/attestry/bundle/Usage")) (by decide) (by decide)))).other W12 (Or.inr (slot_ne (Or.inr (w29 hw)) (Or.inr (w33 hw)) (by decide) (t := (.object "com/example/attestry/attestry/bundle/Condition")) (t' := (.object "com/example/attestry/attestry/bundle/Usage")) (by decide) (by decide))))
  have f18 := (F9.other W12 (Or.inr (slot_ne (Or.inr (w31 hw)) (Or.inr (w33 hw)) (by decide) (t := (.object "com/example/attestry/attestry/bundle/Usage")) (t' := (.object "com/example/attestry/attestry/bundle/Usage")) (by decide) (by decide))))
  refine Go.retV X12 hx hlk hret (hb hby d2_31) (by decide) (by decide) e12 ?_
  exact ⟨rfl, N12, ((((((Keep.refl h0 [a1]).wr W2 (Or.inl (List.mem_of_getElem? (i := 0) rfl))).wr W3 (Or.inl (List.mem_of_getElem? (i := 0) rfl))).wr W6 (Or.inl (List.mem_of_getElem? (i := 0) rfl))).wr W9 (Or.inl (List.mem_of_getElem? (i := 0) rfl))).wr W12 (Or.inl (List.mem_of_getElem? (i := 0) rfl))), f15, f16, f17, f18, F12⟩
theorem d5_0 : decode prog_21_method_2_code 0 = .ok (.iload_n 1, 1) := by decide +kernel
theorem d5_1 : decode prog_21_method_2_code 1 = .ok (.ifCond .eq 10, 3) := by decide +kernel
theorem d5_4 : decode prog_21_method_2_code 4 = .ok (.aload_n 0, 1) := by decide +kernel
theorem d5_5 : decode prog_21_method_2_code 5 = .ok (.getfield 21, 3) := by decide +kernel
theorem d5_8 : decode prog_21_method_2_code 8 = .ok (.goto 7, 3) := by decide +kernel
theorem d5_15 : decode prog_21_method_2_code 15 = .ok (.areturn, 1) := by decide +kernel
def rr_usage1 : Room := { frames := 0, cells := 0, slots := 0, locals := 0 }
set_option maxRecDepth 65536 in
set_option maxHeartbeats 40000000 in
theorem rm_usage1 (l : Launch) (Z : State) (a0 : Array Value) (hw : ∀ d ∈ tables_1, d.before a0 Z = true) (ws : List Jvm.Cond) (a1 u : Addr) (h0 : Heap) (n0 : Nat) (Z0 : n0 ≤ h0.size) (F0 : Fld Z h0 a1 "com/example/attestry/attestry/bundle/ConditionPredicate" "whenHolds" "Lcom/example/attestry/attestry/bundle/Usage;" (.ref u)) :
    Con l Z (⟨"com/example/attestry/attestry/bundle/ConditionPredicate", "usage", "(Z)Lcom/example/attestry/attestry/bundle/Usage;"⟩ : MethodName) prog_21_method_2_code 2 (some (.object "com/example/attestry/attestry/bundle/Usage")) ws rr_usage1 #[(.ref a1), (.int (1 : Int32))] h0 (fun v h L => v = some (.ref u) ∧ Fr n0 L ∧ h = h0) := by
  refine Con.enter (plainFor_of_name pn2) ?_
  intro p e s m below meth c s₁ X0 hx hZ hby hml hret hlk hown hnm e0
  have N0 := Fr.nil n0
  refine Go.cast (g' := (mkF m 0 #[.val (.ref a1), .val (.int (1 : Int32))] [])) (by first | rfl | (simp [entryFrame, mkF, argsToLocals, Value.category]; done)) ?_
  refine Go.st (T' := s₁) (g' := (mkF m 1 #[.val (.ref a1), .val (.int (1 : Int32))] [(.int (1 : Int32))])) (fun _ zk => XS.iloadN X0.here hx rfl (hb hby d5_0) rfl zk) ?_
  refine Go.st (T' := s₁) (g' := (mkF m 4 #[.val (.ref a1), .val (.int (1 : Int32))] [])) (fun _ zk => XS.ifNo X0.here hx rfl (hb hby d5_1) rfl ((if0 _ _).trans (feq ((by decide) : ¬ ((1 : Int32) = (0 : Int32)))).1) zk) ?_
  refine Go.st (T' := s₁) (g' := (mkF m 5 #[.val (.ref a1), .val (.int (1 : Int32))] [(.ref a1)])) (fun _ zk => XS.aloadN X0.here hx rfl (hb hby d5_4) rfl rfl zk) ?_
  obtain ⟨T1, X1, e1, st1⟩ := getF X0 hx hZ hown (host := "") (Or.inl (w30 hw)) Via.refl e0 F0 (g := (mkF m 5 #[.val (.ref a1), .val (.int (1 : Int32))] [(.ref a1)])) rfl rfl (hb hby d5_5)
  refine Go.st (T' := T1) (g' := (mkF m 8 #[.val (.ref a1), .val (.int (1 : Int32))] [(.ref u)])) (fun _ zk => st1 _ zk) ?_
  refine Go.st (T' := T1) (g' := (mkF m 15 #[.val (.ref a1), .val (.int (1 : Int32))] [(.ref u)])) (fun _ zk => XS.goto X1.here hx rfl (pc0 := 8) (pc' := 15) rfl (hb hby d5_8) (by decide) (by decide) zk) ?_
  refine Go.retA X1 hx hlk hret rfl rfl (hb hby d5_15) (by decide) (by decide) e1 ?_
  exact ⟨rfl, N0, rfl⟩
theorem d5_11 : decode prog_21_method_2_code 11 = .ok (.aload_n 0, 1) := by decide +kernel
theorem d5_12 : decode prog_21_method_2_code 12 = .ok (.getfield 25, 3) := by decide +kernel
def rr_usage0 : Room := { frames := 0, cells := 0, slots := 0, locals := 0 }
set_option maxRecDepth 65536 in
set_option maxHeartbeats 40000000 in
theorem rm_usage0 (l : Launch) (Z : State) (a0 : Array Value) (hw : ∀ d ∈ tables_1, d.before a0 Z = true) (ws : List Jvm.Cond) (a1 u : Addr) (h0 : Heap) (n0 : Nat) (Z0 : n0 ≤ h0.size) (F0 : Fld Z h0 a1 "com/example/attestry/attestry/bundle/ConditionPredicate" "otherwise" "Lcom/example/attestry/attestry/bundle/Usage;" (.ref u)) :
    Con l Z (⟨"com/example/attestry/attestry/bundle/ConditionPredicate", "usage", "(Z)Lcom/example/attestry/attestry/bundle/Usage;"⟩ : MethodName) prog_21_method_2_code 2 (some (.object "com/example/attestry/attestry/bundle/Usage")) ws rr_usage0 #[(.ref a1), (.int (0 : Int32))] h0 (fun v h L => v = some (.ref u) ∧ Fr n0 L ∧ h = h0) := by
  refine Con.enter (plainFor_of_name pn2) ?_
  intro p e s m below meth c s₁ X0 hx hZ hby hml hret hlk hown hnm e0
  have N0 := Fr.nil n0
  refine Go.cast (g' := (mkF m 0 #[.val (.ref a1), .val (.int (0 : Int32))] [])) (by first | rfl | (simp [entryFrame, mkF, argsToLocals, Value.category]; done)) ?_
  refine Go.st (T' := s₁) (g' := (mkF m 1 #[.val (.ref a1), .val (.int (0 : Int32))] [(.int (0 : Int32))])) (fun _ zk => XS.iloadN X0.here hx rfl (hb hby d5_0) rfl zk) ?_
  refine Go.st (T' := s₁) (g' := (mkF m 11 #[.val (.ref a1), .val (.int (0 : Int32))] [])) (fun _ zk => XS.ifYes X0.here hx rfl (pc0 := 1) (pc' := 11) rfl (hb hby d5_1) rfl ((if0 _ _).trans (teq ((by decide) : (0 : Int32) = (0 : Int32))).1) (by decide) (by decide) zk) ?_
  refine Go.st (T' := s₁) (g' := (mkF m 12 #[.val (.ref a1), .val (.int (0 : Int32))] [(.ref a1)])) (fun _ zk => XS.aloadN X0.here hx rfl (hb hby d5_11) rfl rfl zk) ?_
  obtain ⟨T1, X1, e1, st1⟩ := getF X0 hx hZ hown (host := "") (Or.inl (w32 hw)) Via.refl e0 F0 (g := (mkF m 12 #[.val (.ref a1), .val (.int (0 : Int32))] [(.ref a1)])) rfl rfl (hb hby d5_12)
  refine Go.st (T' := T1) (g' := (mkF m 15 #[.val (.ref a1), .val (.int (0 : Int32))] [(.ref u)])) (fun _ zk => st1 _ zk) ?_
  refine Go.retA X1 hx hlk hret rfl rfl (hb hby d5_15) (by decide) (by decide) e1 ?_
  exact ⟨rfl, N0, rfl⟩
theorem d6_0 : decode prog_21_method_9_code 0 = .ok (.aload_n 0, 1) := by decide +kernel
theorem d6_1 : decode prog_21_method_9_code 1 = .ok (.getfield 21, 3) := by decide +kernel
theorem d6_4 : decode prog_21_method_9_code 4 = .ok (.areturn, 1) := by decide +kernel
def rr_whenHolds : Room := { frames := 0, cells := 0, slots := 0, locals := 0 }
set_option maxRecDepth 65536 in
set_option maxHeartbeats 40000000 in
theorem rm_whenHolds (l : Launch) (Z : State) (a0 : Array Value) (hw : ∀ d ∈ tables_1, d.before a0 Z = true) (ws : List Jvm.Cond) (a1 : Addr) (w : Addr) (h0 : Heap) (n0 : Nat) (Z0 : n0 ≤ h0.size) (F0 : Fld Z h0 a1 "com/example/attestry/attestry/bundle/ConditionPredicate" "whenHolds" "Lcom/example/attestry/attestry/bundle/Usage;" (.ref w)) :
    Con l Z (⟨"com/example/attestry/attestry/bundle/ConditionPredicate", "whenHolds", "()Lcom/example/attestry/attestry/bundle/Usage;"⟩ : MethodName) prog_21_method_9_code 1 (some (.object "com/example/attestry/attestry/bundle/Usage")) ws rr_whenHolds #[(.ref a1)] h0 (fun v h L => v = some (.ref w) ∧ Fr n0 L ∧ h = h0) := by
  refine Con.enter (plainFor_of_name pn2) ?_
  intro p e s m below meth c s₁ X0 hx hZ hby hml hret hlk hown hnm e0
  have N0 := Fr.nil n0
  refine Go.cast (g' := (mkF m 0 #[.val (.ref a1)] [])) (by first | rfl | (simp [entryFrame, mkF, argsToLocals, Value.category]; done)) ?_
  refine Go.st (T' := s₁) (g' := (mkF m 1 #[.val (.ref a1)] [(.ref a1)])) (fun _ zk => XS.aloadN X0.here hx rfl (hb hby d6_0) rfl rfl zk) ?_
  obtain ⟨T1, X1, e1, st1⟩ := getF X0 hx hZ hown (host := "") (Or.inl (w30 hw)) Via.refl e0 F0 (g := (mkF m 1 #[.val (.ref a1)] [(.ref a1)])) rfl rfl (hb hby d6_1)
  refine Go.st (T' := T1) (g' := (mkF m 4 #[.val (.ref a1)] [(.ref w)])) (fun _ zk => st1 _ zk) ?_
  refine Go.retA X1 hx hlk hret rfl rfl (hb hby d6_4) (by decide) (by decide) e1 ?_
  exact ⟨rfl, N0, rfl⟩
theorem d7_0 : decode prog_21_method_10_code 0 = .ok (.aload_n 0, 1) := by decide +kernel
theorem d7_1 : decode prog_21_method_10_code 1 = .ok (.getfield 25, 3) := by decide +kernel
theorem d7_4 : decode prog_21_method_10_code 4 = .ok (.areturn, 1) := by decide +kernel
def rr_otherwise : Room := { frames := 0, cells := 0, slots := 0, locals := 0 }
set_option maxRecDepth 65536 in
set_option maxHeartbeats 40000000 in
theorem rm_otherwise (l : Launch) (Z : State) (a0 : Array Value) (hw : ∀ d ∈ tables_1, d.before a0 Z = true) (ws : List Jvm.Cond) (a1 : Addr) (w : Addr) (h0 : Heap) (n0 : Nat) (Z0 : n0 ≤ h0.size) (F0 : Fld Z h0 a1 "com/example/attestry/attestry/bundle/ConditionPredicate" "otherwise" "Lcom/example/attestry/attestry/bundle/Usage;" (.ref w)) :
    Con l Z (⟨"com/example/attestry/attestry/bundle/ConditionPredicate", "otherwise", "()Lcom/example/attestry/attestry/bundle/Usage;"⟩ : MethodName) prog_21_method_10_code 1 (some (.object "com/example/attestry/attestry/bundle/Usage")) ws rr_otherwise #[(.ref a1)] h0 (fun v h L => v = some (.ref w) ∧ Fr n0 L ∧ h = h0) := by
  refine Con.enter (plainFor_of_name pn2) ?_
  intro p e s m below meth c s₁ X0 hx hZ hby hml hret hlk hown hnm e0
  have N0 := Fr.nil n0
  refine Go.cast (g' := (mkF m 0 #[.val (.ref a1)] [])) (by first | rfl | (simp [entryFrame, mkF, argsToLocals, Value.category]; done)) ?_
  refine Go.st (T' := s₁) (g' := (mkF m 1 #[.val (.ref a1)] [(.ref a1)])) (fun _ zk => XS.aloadN X0.here hx rfl (hb hby d7_0) rfl rfl zk) ?_
  obtain ⟨T1, X1, e1, st1⟩ := getF X0 hx hZ hown (host := "") (Or.inl (w32 hw)) Via.refl e0 F0 (g := (mkF m 1 #[.val (.ref a1)] [(.ref a1)])) rfl rfl (hb hby d7_1)
  refine Go.st (T' := T1) (g' := (mkF m 4 #[.val (.ref a1)] [(.ref w)])) (fun _ zk => st1 _ zk) ?_
  refine Go.retA X1 hx hlk hret rfl rfl (hb hby d7_4) (by decide) (by decide) e1 ?_
  exact ⟨rfl, N0, rfl⟩
def Sts (Z : State) (A : Nat → Addr) : Prop := Sta Z Z.heap "com/example/attestry/attestry/bundle/Usage" "R" "Lcom/example/attestry/attestry/bundle/Usage;" (.ref (A 0)) ∧ Sta Z Z.heap "com/example/attestry/attestry/bundle/Usage" "RE" "Lcom/example/attestry/attestry/bundle/Usage;" (.ref (A 1)) ∧ Sta Z Z.heap "com/example/attestry/attestry/bundle/Usage" "O" "Lcom/example/attestry/attestry/bundle/Usage;" (.ref (A 2)) ∧ Sta Z Z.heap "com/example/attestry/attestry/bundle/Usage" "C" "Lcom/example/attestry/attestry/bundle/Usage;" (.ref (A 3)) ∧ Sta Z Z.heap "com/example/attestry/attestry/bundle/Usage" "CE" "Lcom/example/attestry/attestry/bundle/Usage;" (.ref (A 4)) ∧ Sta Z Z.heap "com/example/attestry/attestry/bundle/Usage" "X" "Lcom/example/attestry/attestry/bundle/Usage;" (.ref (A 5)) ∧ Sta Z Z.heap "com/example/attestry/attestry/bundle/Usage" "B" "Lcom/example/attestry/attestry/bundle/Usage;" (.ref (A 6))
theorem d1_0 : decode method_2_code 0 = .ok (.iload_n 0, 1) := by decide +kernel
theorem d1_1 : decode method_2_code 1 = .ok (.ldc 7, 2) := by decide +kernel
theorem w4 {a0 : Array Value} {Z : State} (hw : ∀ d ∈ tables_1, d.before a0 Z = true) : ((Jvm.Cond.constant "com/example/attestry/attestry/bundle/ConditionPredicateUsagePinLaw" (7 : Nat) (2147483647 : Int32))).before a0 Z = true := hw _ (List.mem_of_getElem? (i := 4) rfl)
theorem d1_3 : decode method_2_code 3 = .ok (.iand, 1) := by decide +kernel
theorem d1_4 : decode method_2_code 4 = .ok (.bipush 7, 2) := by decide +kernel
theorem d1_6 : decode method_2_code 6 = .ok (.irem, 1) := by decide +kernel
theorem d1_7 : decode method_2_code 7 = .ok (.istore_n 1, 1) := by decide +kernel
theorem d1_8 : decode method_2_code 8 = .ok (.iload_n 1, 1) := by decide +kernel
theorem d1_9 : decode method_2_code 9 = .ok (.ifCond .ne 7, 3) := by decide +kernel
theorem d1_12 : decode method_2_code 12 = .ok (.getstatic 8, 3) := by decide +kernel
theorem w5 {a0 : Array Value} {Z : State} (hw : ∀ d ∈ tables_1, d.before a0 Z = true) : ((Jvm.Cond.fieldLink "com/example/attestry/attestry/bundle/ConditionPredicateUsagePinLaw" (8 : Nat) "com/example/attestry/attestry/bundle/Usage" "R" "Lcom/example/attestry/attestry/bundle/Usage;")).before a0 Z = true := hw _ (List.mem_of_getElem? (i := 5) rfl)
theorem d1_15 : decode method_2_code 15 = .ok (.areturn, 1) := by decide +kernel
theorem d1_16 : decode method_2_code 16 = .ok (.iload_n 1, 1) := by decide +kernel
theorem d1_17 : decode method_2_code 17 = .ok (.iconst 1, 1) := by decide +kernel
theorem d1_18 : decode method_2_code 18 = .ok (.if_icmp .ne 7, 3) := by decide +kernel
theorem d1_21 : decode method_2_code 21 = .ok (.getstatic 14, 3) := by decide +kernel
theorem w49 {a0 : Array Value} {Z : State} (hw : ∀ d ∈ tables_1, d.before a0 Z = true) : ((Jvm.Cond.fieldLink "com/example/attestry/attestry/bundle/ConditionPredicateUsagePinLaw" (14 : Nat) "com/example/attestry/attestry/bundle/Usage" "RE" "Lcom/example/attestry/attestry/bundle/Usage;")).before a0 Z = true := hw _ (List.mem_of_getElem? (i := 49) rfl)
theorem d1_24 : decode method_2_code 24 = .ok (.areturn, 1) := by decide +kernel
theorem d1_25 : decode method_2_code 25 = .ok (.iload_n 1, 1) := by decide +kernel
theorem d1_26 : decode method_2_code 26 = .ok (.iconst 2, 1) := by decide +kernel
theorem d1_27 : decode method_2_code 27 = .ok (.if_icmp .ne 7, 3) := by decide +kernel
theorem d1_30 : decode method_2_code 30 = .ok (.getstatic 17, 3) := by decide +kernel
theorem w53 {a0 : Array Value} {Z : State} (hw : ∀ d ∈ tables_1, d.before a0 Z = true) : ((Jvm.Cond.fieldLink "com/example/attestry/attestry/bundle/ConditionPredicateUsagePinLaw" (17 : Nat) "com/example/attestry/attestry/bundle/Usage" "O" "Lcom/example/attestry/attestry/bundle/Usage;")).before a0 Z = true := hw _ (List.mem_of_getElem? (i := 53) rfl)
theorem d1_33 : decode method_2_code 33 = .ok (.areturn, 1) := by decide +kernel
theorem d1_34 : decode method_2_code 34 = .ok (.iload_n 1, 1) := by decide +kernel
theorem d1_35 : decode method_2_code 35 = .ok (.iconst 3, 1) := by decide +kernel
theorem d1_36 : decode method_2_code 36 = .ok (.if_icmp .ne 7, 3) := by decide +kernel
theorem d1_39 : decode method_2_code 39 = .ok (.getstatic 20, 3) := by decide +kernel
theorem w8 {a0 : Array Value} {Z : State} (hw : ∀ d ∈ tables_1, d.before a0 Z = true) : ((Jvm.Cond.fieldLink "com/example/attestry/attestry/bundle/ConditionPredicateUsagePinLaw" (20 : Nat) "com/example/attestry/attestry/bundle/Usage" "C" "Lcom/example/attestry/attestry/bundle/Usage;")).before a0 Z = true := hw _ (List.mem_of_getElem? (i := 8) rfl)
theorem d1_42 : decode method_2_code 42 = .ok (.areturn, 1) := by decide +kernel
theorem d1_43 : decode method_2_code 43 = .ok (.iload_n 1, 1) := by decide +kernel
theorem d1_44 : decode method_2_code 44 = .ok (.iconst 4, 1) := by decide +kernel
theorem d1_45 : decode method_2_code 45 = .ok (.if_icmp .ne 7, 3) := by decide +kernel
theorem d1_48 : decode method_2_code 48 = .ok (.getstatic 23, 3) := by decide +kernel
theorem w55 {a0 : Array Value} {Z : State} (hw : ∀ d ∈ tables_1, d.before a0 Z = true) : ((Jvm.Cond.fieldLink "com/example/attestry/attestry/bundle/ConditionPredicateUsagePinLaw" (23 : Nat) "com/example/attestry/attestry/bundle/Usage" "CE" "Lcom/example/attestry/attestry/bundle/Usage;")).before a0 Z = true := hw _ (List.mem_of_getElem? (i := 55) rfl)
theorem d1_51 : decode method_2_code 51 = .ok (.areturn, 1) := by decide +kernel
theorem d1_52 : decode method_2_code 52 = .ok (.iload_n 1, 1) := by decide +kernel
theorem d1_53 : decode method_2_code 53 = .ok (.iconst 5, 1) := by decide +kernel
theorem d1_54 : decode method_2_code 54 = .ok (.if_icmp .ne 7, 3) := by decide +kernel
theorem d1_57 : decode method_2_code 57 = .ok (.getstatic 26, 3) := by decide +kernel
theorem w51 {a0 : Array Value} {Z : State} (hw : ∀ d ∈ tables_1, d.before a0 Z = true) : ((Jvm.Cond.fieldLink "com/example/attestry/attestry/bundle/ConditionPredicateUsagePinLaw" (26 : Nat) "com/example/attestry/attestry/bundle/Usage" "X" "Lcom/example/attestry/attestry/bundle/Usage;")).before a0 Z = true := hw _ (List.mem_of_getElem? (i := 51) rfl)
theorem d1_60 : decode method_2_code 60 = .ok (.areturn, 1) := by decide +kernel
theorem d1_61 : decode method_2_code 61 = .ok (.getstatic 29, 3) := by decide +kernel
theorem w57 {a0 : Array Value} {Z : State} (hw : ∀ d ∈ tables_1, d.before a0 Z = true) : ((Jvm.Cond.fieldLink "com/example/attestry/attestry/bundle/ConditionPredicateUsagePinLaw" (29 : Nat) "com/example/attestry/attestry/bundle/Usage" "B" "Lcom/example/attestry/attestry/bundle/Usage;")).before a0 Z = true := hw _ (List.mem_of_getElem? (i := 57) rfl)
theorem d1_64 : decode method_2_code 64 = .ok (.areturn, 1) := by decide +kernel
def rr_pick : Room := { frames := 0, cells := 0, slots := 0, locals := 0 }
theorem pn3 : plainName "com/example/attestry/attestry/bundle/ConditionPredicateUsagePinLaw" = true := by first | (simp [plainName, overriddenIn]; done) | decide +kernel
set_option maxRecDepth 65536 in
set_option maxHeartbeats 40000000 in
theorem rm_pick (l : Launch) (Z : State) (a0 : Array Value) (hw : ∀ d ∈ tables_1, d.before a0 Z = true) (ws : List Jvm.Cond) (k : Int32) (A : Nat → Addr) (h0 : Heap) (n0 : Nat) (Z0 : n0 ≤ h0.size) (O0 : Old Z n0 h0) (SS : Sts Z A) :
    Con l Z (⟨"com/example/attestry/attestry/bundle/ConditionPredicateUsagePinLaw", "pick", "(I)Lcom/example/attestry/attestry/bundle/Usage;"⟩ : MethodName) method_2_code 2 (some (.object "com/example/attestry/attestry/bundle/Usage")) ws rr_pick #[(.int k)] h0 (fun v h L => ∃ a : Addr, v = some (.ref a) ∧ Fr n0 L ∧ h = h0) := by
  refine Con.enter (plainFor_of_name pn3) ?_
  intro p e s m below meth c s₁ X0 hx hZ hby hml hret hlk hown hnm e0
  have N0 := Fr.nil n0
  refine Go.cast (g' := (mkF m 0 #[.val (.int k), .unset] [])) (by first | rfl | (simp [entryFrame, mkF, argsToLocals, Value.category]; done)) ?_
  refine Go.st (T' := s₁) (g' := (mkF m 1 #[.val (.int k), .unset] [(.int k)])) (fun _ zk => XS.iloadN X0.here hx rfl (hb hby d1_0) rfl zk) ?_
  refine Go.st (T' := s₁) (g' := (mkF m 3 #[.val (.int k), .unset] [(.int (2147483647 : Int32)), (.int k)])) (fun _ zk => X0.ldcI hx hown (mvT hZ (w4 hw)) rfl (hb hby d1_1) zk) ?_
  refine Go.st (T' := s₁) (g' := (mkF m 4 #[.val (.int k), .unset] [(.int (k &&& (2147483647 : Int32)))])) (fun _ zk => XS.iand X0.here hx rfl (hb hby d1_3) rfl zk) ?_
  refine Go.st (T' := s₁) (g' := (mkF m 6 #[.val (.int k), .unset] [(.int (7 : Int32)), (.int (k &&& (2147483647 : Int32)))])) (fun _ zk => XS.bipush X0.here hx rfl (hb hby d1_4) zk) ?_
  refine Go.st (T' := s₁) (g' := (mkF m 7 #[.val (.int k), .unset] [(.int ((k &&& (2147483647 : Int32)) % (7 : Int32)))])) (fun _ zk => iremM X0 hx rfl (hb hby d1_6) rfl (by decide) zk) ?_
  refine Go.st (T' := s₁) (g' := (mkF m 8 #[.val (.int k), .val (.int ((k &&& (2147483647 : Int32)) % (7 : Int32)))] [])) (fun _ zk => XS.istoreN X0.here hx rfl (hb hby d1_7) rfl (l' := #[.val (.int k), .val (.int ((k &&& (2147483647 : Int32)) % (7 : Int32)))]) rfl zk) ?_
  refine Go.st (T' := s₁) (g' := (mkF m 9 #[.val (.int k), .val (.int ((k &&& (2147483647 : Int32)) % (7 : Int32)))] [(.int ((k &&& (2147483647 : Int32)) % (7 : Int32)))])) (fun _ zk => XS.iloadN X0.here hx rfl (hb hby d1_8) rfl zk) ?_
  by_cases hc9 : ((k &&& (2147483647 : Int32)) % (7 : Int32)) = (0 : Int32)
  · refine Go.st (T' := s₁) (g' := (mkF m 12 #[.val (.int k), .val (.int ((k &&& (2147483647 : Int32)) % (7 : Int32)))] [])) (fun _ zk => XS.ifNo X0.here hx rfl (hb hby d1_9) rfl ((if0 _ _).trans (teq hc9).2) zk) ?_
    obtain ⟨T1, X1, e1, st1⟩ := getS2 X0 hx hZ hown (host := "") (Or.inl (w5 hw)) Via.refl e0 (SS.1.ext O0.2) (g := (mkF m 12 #[.val (.int k), .val (.int ((k &&& (2147483647 : Int32)) % (7 : Int32)))] [])) rfl (hb hby d1_12)
    refine Go.st (T' := T1) (g' := (mkF m 15 #[.val (.int k), .val (.int ((k &&& (2147483647 : Int32)) % (7 : Int32)))] [(.ref (A 0))])) (fun _ zk => st1 _ zk) ?_
    refine Go.retA X1 hx hlk hret rfl rfl (hb hby d1_15) (by decide) (by decide) e1 ?_
    exact ⟨_, rfl, N0, rfl⟩
  · refine Go.st (T' := s₁) (g' := (mkF m 16 #[.val (.int k), .val (.int ((k &&& (2147483647 : Int32)) % (7 : Int32)))] [])) (fun _ zk => XS.ifYes X0.here hx rfl (pc0 := 9) (pc' := 16) rfl (hb hby d1_9) rfl ((if0 _ _).trans (feq hc9).2) (by decide) (by decide) zk) ?_
    refine Go.st (T' := s₁) (g' := (mkF m 17 #[.val (.int k), .val (.int ((k &&& (2147483647 : Int32)) % (7 : Int32)))] [(.int ((k &&& (2147483647 : Int32)) % (7 : Int32)))])) (fun _ zk => XS.iloadN X0.here hx rfl (hb hby d1_16) rfl zk) ?_
    refine Go.st (T' := s₁) (g' := (mkF m 18 #[.val (.int k), .val (.int ((k &&& (2147483647 : Int32)) % (7 : Int32)))] [(.int (1 : Int32)), (.int ((k &&& (2147483647 : Int32)) % (7 : Int32)))])) (fun _ zk => XS.iconst X0.here hx rfl (hb hby d1_17) zk) ?_
    by_cases hc18 : ((k &&& (2147483647 : Int32)) % (7 : Int32)) = (1 : Int32)
    · refine Go.st (T' := s₁) (g' := (mkF m 21 #[.val (.int k), .val (.int ((k &&& (2147483647 : Int32)) % (7 : Int32)))] [])) (fun _ zk => XS.icmpNo X0.here hx rfl (hb hby d1_18) rfl (teq hc18).2 zk) ?_
      obtain ⟨T2, X2, e2, st2⟩ := getS2 X0 hx hZ hown (host := "") (Or.inl (w49 hw)) Via.refl e0 (SS.2.1.ext O0.2) (g := (mkF m 21 #[.val (.int k), .val (.int ((k &&& (2147483647 : Int32)) % (7 : Int32)))] [])) rfl (hb hby d1_21)
      refine Go.st (T' := T2) (g' := (mkF m 24 #[.val (.int k), .val (.int ((k &&& (2147483647 : Int32)) % (7 : Int32)))] [(.ref (A 1))])) (fun _ zk => st2 _ zk) ?_
      refine Go.retA X2 hx hlk hret rfl rfl (hb hby d1_24) (by decide) (by decide) e2 ?_
      exact ⟨_, rfl, N0, rfl⟩
    · refine Go.st (T' := s₁) (g' := (mkF m 25 #[.val (.int k), .val (.int ((k &&& (2147483647 : Int32)) % (7 : Int32)))] [])) (fun _ zk => XS.icmpYes X0.here hx rfl (pc0 := 18) (pc' := 25) rfl (hb hby d1_18) rfl (feq hc18).2 (by decide) (by decide) zk) ?_
      refine Go.st (T' := s₁) (g' := (mkF m 26 #[.val (.int k), .val (.int ((k &&& (2147483647 : Int32)) % (7 : Int32)))] [(.int ((k &&& (2147483647 : Int32)) % (7 : Int32)))])) (fun _ zk => XS.iloadN X0.here hx rfl (hb hby d1_25) rfl zk) ?_
      refine Go.st (T' := s₁) (g' := (mkF m 27 #[.val (.int k), .val (.int ((k &&& (2147483647 : Int32)) % (7 : Int32)))] [(.int (2 : Int32)), (.int ((k &&& (2147483647 : Int32)) % (7 : Int32)))])) (fun _ zk => XS.iconst X0.here hx rfl (hb hby d1_26) zk) ?_
      by_cases hc27 : ((k &&& (2147483647 : Int32)) % (7 : Int32)) = (2 : Int32)
      · refine Go.st (T' := s₁) (g' := (mkF m 30 #[.val (.int k), .val (.int ((k &&& (2147483647 : Int32)) % (7 : Int32)))] [])) (fun _ zk => XS.icmpNo X0.here hx rfl (hb hby d1_27) rfl (teq hc27).2 zk) ?_
        obtain ⟨T3, X3, e3, st3⟩ := getS2 X0 hx hZ hown (host := "") (Or.inl (w53 hw)) Via.refl e0 (SS.2.2.1.ext O0.2) (g := (mkF m 30 #[.val (.int k), .val (.int ((k &&& (2147483647 : Int32)) % (7 : Int32)))] [])) rfl (hb hby d1_30)
        refine Go.st (T' := T3) (g' := (mkF m 33 #[.val (.int k), .val (.int ((k &&& (2147483647 : Int32)) % (7 : Int32)))] [(.ref (A 2))])) (fun _ zk => st3 _ zk) ?_
        refine Go.retA X3 hx hlk hret rfl rfl (hb hby d1_33) (by decide) (by decide) e3 ?_
        exact ⟨_, rfl, N0, rfl⟩
      · refine Go.st (T' := s₁) (g' := (mkF m 34 #[.val (.int k), .val (.int ((k &&& (2147483647 : Int32)) % (7 : Int32)))] [])) (fun _ zk => XS.icmpYes X0.here hx rfl (pc0 := 27) (pc' := 34) rfl (hb hby d1_27) rfl (feq hc27).2 (by decide) (by decide) zk) ?_
        refine Go.st (T' := s₁) (g' := (mkF m 35 #[.val (.int k), .val (.int ((k &&& (2147483647 : Int32)) % (7 : Int32)))] [(.int ((k &&& (2147483647 : Int32)) % (7 : Int32)))])) (fun _ zk => XS.iloadN X0.here hx rfl (hb hby d1_34) rfl zk) ?_
        refine Go.st (T' := s₁) (g' := (mkF m 36 #[.val (.int k), .val (.int ((k &&& (2147483647 : Int32)) % (7 : Int32)))] [(.int (3 : Int32)), (.int ((k &&& (2147483647 : Int32)) % (7 : Int32)))])) (fun _ zk => XS.iconst X0.here hx rfl (hb hby d1_35) zk) ?_
        by_cases hc36 : ((k &&& (2147483647 : Int32)) % (7 : Int32)) = (3 : Int32)
        · refine Go.st (T' := s₁) (g' := (mkF m 39 #[.val (.int k), .val (.int ((k &&& (2147483647 : Int32)) % (7 : Int32)))] [])) (fun _ zk => XS.icmpNo X0.here hx rfl (hb hby d1_36) rfl (teq hc36).2 zk) ?_
          obtain ⟨T4, X4, e4, st4⟩ := getS2 X0 hx hZ hown (host := "") (Or.inl (w8 hw)) Via.refl e0 (SS.2.2.2.1.ext O0.2) (g := (mkF m 39 #[.val (.int k), .val (.int ((k &&& (2147483647 : Int32)) % (7 : Int32)))] [])) rfl (hb hby d1_39)
          refine Go.st (T' := T4) (g' := (mkF m 42 #[.val (.int k), .val (.int ((k &&& (2147483647 : Int32)) % (7 : Int32)))] [(.ref (A 3))])) (fun _ zk => st4 _ zk) ?_
          refine Go.retA X4 hx hlk hret rfl rfl (hb hby d1_42) (by decide) (by decide) e4 ?_
          exact ⟨_, rfl, N0, rfl⟩
        · refine Go.st (T' := s₁) (g' := (mkF m 43 #[.val (.int k), .val (.int ((k &&& (2147483647 : Int32)) % (7 : Int32)))] [])) (fun _ zk => XS.icmpYes X0.here hx rfl (pc0 := 36) (pc' := 43) rfl (hb hby d1_36) rfl (feq hc36).2 (by decide) (by decide) zk) ?_
          refine Go.st (T' := s₁) (g' := (mkF m 44 #[.val (.int k), .val (.int ((k &&& (2147483647 : Int32)) % (7 : Int32)))] [(.int ((k &&& (2147483647 : Int32)) % (7 : Int32)))])) (fun _ zk => XS.iloadN X0.here hx rfl (hb hby d1_43) rfl zk) ?_
          refine Go.st (T' := s₁) (g' := (mkF m 45 #[.val (.int k), .val (.int ((k &&& (2147483647 : Int32)) % (7 : Int32)))] [(.int (4 : Int32)), (.int ((k &&& (2147483647 : Int32)) % (7 : Int32)))])) (fun _ zk => XS.iconst X0.here hx rfl (hb hby d1_44) zk) ?_
          by_cases hc45 : ((k &&& (2147483647 : Int32)) % (7 : Int32)) = (4 : Int32)
          · refine Go.st (T' := s₁) (g' := (mkF m 48 #[.val (.int k), .val (.int ((k &&& (2147483647 : Int32)) % (7 : Int32)))] [])) (fun _ zk => XS.icmpNo X0.here hx rfl (hb hby d1_45) rfl (teq hc45).2 zk) ?_
            obtain ⟨T5, X5, e5, st5⟩ := getS2 X0 hx hZ hown (host := "") (Or.inl (w55 hw)) Via.refl e0 (SS.2.2.2.2.1.ext O0.2) (g := (mkF m 48 #[.val (.int k), .val (.int ((k &&& (2147483647 : Int32)) % (7 : Int32)))] [])) rfl (hb hby d1_48)
            refine Go.st (T' := T5) (g' := (mkF m 51 #[.val (.int k), .val (.int ((k &&& (2147483647 : Int32)) % (7 : Int32)))] [(.ref (A 4))])) (fun _ zk => st5 _ zk) ?_
            refine Go.retA X5 hx hlk hret rfl rfl (hb hby d1_51) (by decide) (by decide) e5 ?_
            exact ⟨_, rfl, N0, rfl⟩
          · refine Go.st (T' := s₁) (g' := (mkF m 52 #[.val (.int k), .val (.int ((k &&& (2147483647 : Int32)) % (7 : Int32)))] [])) (fun _ zk => XS.icmpYes X0.here hx rfl (pc0 := 45) (pc' := 52) rfl (hb hby d1_45) rfl (feq hc45).2 (by decide) (by decide) zk) ?_
            refine Go.st (T' := s₁) (g' := (mkF m 53 #[.val (.int k), .val (.int ((k &&& (2147483647 : Int32)) % (7 : Int32)))] [(.int ((k &&& (2147483647 : Int32)) % (7 : Int32)))])) (fun _ zk => XS.iloadN X0.here hx rfl (hb hby d1_52) rfl zk) ?_
            refine Go.st (T' := s₁) (g' := (mkF m 54 #[.val (.int k), .val (.int ((k &&& (2147483647 : Int32)) % (7 : Int32)))] [(.int (5 : Int32)), (.int ((k &&& (2147483647 : Int32)) % (7 : Int32)))])) (fun _ zk => XS.iconst X0.here hx rfl (hb hby d1_53) zk) ?_
            by_cases hc54 : ((k &&& (2147483647 : Int32)) % (7 : Int32)) = (5 : Int32)
            · refine Go.st (T' := s₁) (g' := (mkF m 57 #[.val (.int k), .val (.int ((k &&& (2147483647 : Int32)) % (7 : Int32)))] [])) (fun _ zk => XS.icmpNo X0.here hx rfl (hb hby d1_54) rfl (teq hc54).2 zk) ?_
              obtain ⟨T6, X6, e6, st6⟩ := getS2 X0 hx hZ hown (host := "") (Or.inl (w51 hw)) Via.refl e0 (SS.2.2.2.2.2.1.ext O0.2) (g := (mkF m 57 #[.val (.int k), .val (.int ((k &&& (2147483647 : Int32)) % (7 : Int32)))] [])) rfl (hb hby d1_57)
              refine Go.st (T' := T6) (g' := (mkF m 60 #[.val (.int k), .val (.int ((k &&& (2147483647 : Int32)) % (7 : Int32)))] [(.ref (A 5))])) (fun _ zk => st6 _ zk) ?_
              refine Go.retA X6 hx hlk hret rfl rfl (hb hby d1_60) (by decide) (by decide) e6 ?_
              exact ⟨_, rfl, N0, rfl⟩
            · refine Go.st (T' := s₁) (g' := (mkF m 61 #[.val (.int k), .val (.int ((k &&& (2147483647 : Int32)) % (7 : Int32)))] [])) (fun _ zk => XS.icmpYes X0.here hx rfl (pc0 := 54) (pc' := 61) rfl (hb hby d1_54) rfl (feq hc54).2 (by decide) (by decide) zk) ?_
              obtain ⟨T7, X7, e7, st7⟩ := getS2 X0 hx hZ hown (host := "") (Or.inl (w57 hw)) Via.refl e0 (SS.2.2.2.2.2.2.ext O0.2) (g := (mkF m 61 #[.val (.int k), .val (.int ((k &&& (2147483647 : Int32)) % (7 : Int32)))] [])) rfl (hb hby d1_61)
              refine Go.st (T' := T7) (g' := (mkF m 64 #[.val (.int k), .val (.int ((k &&& (2147483647 : Int32)) % (7 : Int32)))] [(.ref (A 6))])) (fun _ zk => st7 _ zk) ?_
              refine Go.retA X7 hx hlk hret rfl rfl (hb hby d1_64) (by decide) (by decide) e7 ?_
              exact ⟨_, rfl, N0, rfl⟩
theorem w3 {a0 : Array Value} {Z : State} (hw : ∀ d ∈ tables_1, d.before a0 Z = true) : ((Jvm.Cond.code ({ cls := "com/example/attestry/attestry/bundle/ConditionPredicateUsagePinLaw", name := "pick", desc := "(I)Lcom/example/attestry/attestry/bundle/Usage;" } : Jvm.MethodName) method_2_code (2 : Nat) (Option.some (Jvm.ClassFile.FieldType.object "com/example/attestry/attestry/bundle/Usage")))).before a0 Z = true := hw _ (List.mem_of_getElem? (i := 3) rfl)
theorem w2 {a0 : Array Value} {Z : State} (hw : ∀ d ∈ tables_1, d.before a0 Z = true) : ((Jvm.Cond.initialized "com/example/attestry/attestry/bundle/ConditionPredicateUsagePinLaw")).before a0 Z = true := hw _ (List.mem_of_getElem? (i := 2) rfl)
theorem pd4 : parseMethodDescriptor "(I)Lcom/example/attestry/attestry/bundle/Usage;" = some ⟨[.int], some (.object "com/example/attestry/attestry/bundle/Usage")⟩ := by decide +kernel
theorem w0 {a0 : Array Value} {Z : State} (hw : ∀ d ∈ tables_1, d.before a0 Z = true) : ((Jvm.Cond.methodLink "com/example/attestry/attestry/bundle/ConditionPredicateUsagePinLaw" (32 : Nat) ({ cls := "com/example/attestry/attestry/bundle/ConditionPredicateUsagePinLaw", name := "pick", desc := "(I)Lcom/example/attestry/attestry/bundle/Usage;" } : Jvm.MethodName))).before a0 Z = true := hw _ (List.mem_of_getElem? (i := 0) rfl)
theorem w1 {a0 : Array Value} {Z : State} (hw : ∀ d ∈ tables_1, d.before a0 Z = true) : ((Jvm.Cond.static ({ cls := "com/example/attestry/attestry/bundle/ConditionPredicateUsagePinLaw", name := "pick", desc := "(I)Lcom/example/attestry/attestry/bundle/Usage;" } : Jvm.MethodName))).before a0 Z = true := hw _ (List.mem_of_getElem? (i := 1) rfl)
theorem w10 {a0 : Array Value} {Z : State} (hw : ∀ d ∈ tables_1, d.before a0 Z = true) : ((Jvm.Cond.classLink "com/example/attestry/attestry/bundle/ConditionPredicateUsagePinLaw" (38 : Nat) "com/example/attestry/attestry/bundle/ConditionPredicate")).before a0 Z = true := hw _ (List.mem_of_getElem? (i := 10) rfl)
theorem w12 {a0 : Array Value} {Z : State} (hw : ∀ d ∈ tables_1, d.before a0 Z = true) : ((Jvm.Cond.initialized "com/example/attestry/attestry/bundle/ConditionPredicate")).before a0 Z = true := hw _ (List.mem_of_getElem? (i := 12) rfl)
theorem w15 {a0 : Array Value} {Z : State} (hw : ∀ d ∈ tables_1, d.before a0 Z = true) : ((Jvm.Cond.code ({ cls := "com/example/attestry/attestry/bundle/ConditionPredicate", name := "<init>", desc := "(Ljava/lang/String;Lcom/example/attestry/attestry/bundle/RulePlace;Lcom/example/attestry/attestry/bundle/Condition;Lcom/example/attestry/attestry/bundle/Usage;Lcom/example/attestry/attestry/bundle/Usage;)V" } : Jvm.MethodName) prog_21_method_1_code (6 : Nat) (Option.none : Option Jvm.ClassFile.FieldType))).before a0 Z = true := hw _ (List.mem_of_getElem? (i := 15) rfl)
theorem pd5 : parseMethodDescriptor "(Ljava/lang/String;Lcom/example/attestry/attestry/bundle/RulePlace;Lcom/example/attestry/attestry/bundle/Condition;Lcom/example/attestry/attestry/bundle/Usage;Lcom/example/attestry/attestry/bundle/Usage;)V" = some ⟨[(.object "java/lang/String"), (.object "com/example/attestry/attestry/bundle/RulePlace"), (.object "com/example/attestry/attestry/bundle/Condition"), (.object "com/example/attestry/attestry/bundle/Usage"), (.object "com/example/attestry/attestry/bundle/Usage")], none⟩ := by decide +kernel
theorem w13 {a0 : Array Value} {Z : State} (hw : ∀ d ∈ tables_1, d.before a0 Z = true) : ((Jvm.Cond.methodLink "com/example/attestry/attestry/bundle/ConditionPredicateUsagePinLaw" (40 : Nat) ({ cls := "com/example/attestry/attestry/bundle/ConditionPredicate", name := "<init>", desc := "(Ljava/lang/String;Lcom/example/attestry/attestry/bundle/RulePlace;Lcom/example/attestry/attestry/bundle/Condition;Lcom/example/attestry/attestry/bundle/Usage;Lcom/example/attestry/attestry/bundle/Usage;)V" } : Jvm.MethodName))).before a0 Z = true := hw _ (List.mem_of_getElem? (i := 13) rfl)
theorem w14 {a0 : Array Value} {Z : State} (hw : ∀ d ∈ tables_1, d.before a0 Z = true) : ((Jvm.Cond.instanceMethod ({ cls := "com/example/attestry/attestry/bundle/ConditionPredicate", name := "<init>", desc := "(Ljava/lang/String;Lcom/example/attestry/attestry/bundle/RulePlace;Lcom/example/attestry/attestry/bundle/Condition;Lcom/example/attestry/attestry/bundle/Usage;Lcom/example/attestry/attestry/bundle/Usage;)V" } : Jvm.MethodName))).before a0 Z = true := hw _ (List.mem_of_getElem? (i := 14) rfl)
theorem w38 {a0 : Array Value} {Z : State} (hw : ∀ d ∈ tables_1, d.before a0 Z = true) : ((Jvm.Cond.code ({ cls := "com/example/attestry/attestry/bundle/ConditionPredicate", name := "usage", desc := "(Z)Lcom/example/attestry/attestry/bundle/Usage;" } : Jvm.MethodName) prog_21_method_2_code (2 : Nat) (Option.some (Jvm.ClassFile.FieldType.object "com/example/attestry/attestry/bundle/Usage")))).before a0 Z = true := hw _ (List.mem_of_getElem? (i := 38) rfl)
theorem pd6 : parseMethodDescriptor "(Z)Lcom/example/attestry/attestry/bundle/Usage;" = some ⟨[.boolean], some (.object "com/example/attestry/attestry/bundle/Usage")⟩ := by decide +kernel
theorem w37 {a0 : Array Value} {Z : State} (hw : ∀ d ∈ tables_1, d.before a0 Z = true) : ((Jvm.Cond.selects "com/example/attestry/attestry/bundle/ConditionPredicate" ({ cls := "com/example/attestry/attestry/bundle/ConditionPredicate", name := "usage", desc := "(Z)Lcom/example/attestry/attestry/bundle/Usage;" } : Jvm.MethodName) ({ cls := "com/example/attestry/attestry/bundle/ConditionPredicate", name := "usage", desc := "(Z)Lcom/example/attestry/attestry/bundle/Usage;" } : Jvm.MethodName))).before a0 Z = true := hw _ (List.mem_of_getElem? (i := 37) rfl)
theorem w36 {a0 : Array Value} {Z : State} (hw : ∀ d ∈ tables_1, d.before a0 Z = true) : ((Jvm.Cond.instanceMethod ({ cls := "com/example/attestry/attestry/bundle/ConditionPredicate", name := "usage", desc := "(Z)Lcom/example/attestry/attestry/bundle/Usage;" } : Jvm.MethodName))).before a0 Z = true := hw _ (List.mem_of_getElem? (i := 36) rfl)
theorem w34 {a0 : Array Value} {Z : State} (hw : ∀ d ∈ tables_1, d.before a0 Z = true) : ((Jvm.Cond.methodLink "com/example/attestry/attestry/bundle/ConditionPredicateUsagePinLaw" (43 : Nat) ({ cls := "com/example/attestry/attestry/bundle/ConditionPredicate", name := "usage", desc := "(Z)Lcom/example/attestry/attestry/bundle/Usage;" } : Jvm.MethodName))).before a0 Z = true := hw _ (List.mem_of_getElem? (i := 34) rfl)
theorem w35 {a0 : Array Value} {Z : State} (hw : ∀ d ∈ tables_1, d.before a0 Z = true) : ((Jvm.Cond.declares ({ cls := "com/example/attestry/attestry/bundle/ConditionPredicate", name := "usage", desc := "(Z)Lcom/example/attestry/attestry/bundle/Usage;" } : Jvm.MethodName))).before a0 Z = true := hw _ (List.mem_of_getElem? (i := 35) rfl)
theorem w43 {a0 : Array Value} {Z : State} (hw : ∀ d ∈ tables_1, d.before a0 Z = true) : ((Jvm.Cond.code ({ cls := "com/example/attestry/attestry/bundle/ConditionPredicate", name := "whenHolds", desc := "()Lcom/example/attestry/attestry/bundle/Usage;" } : Jvm.MethodName) prog_21_method_9_code (1 : Nat) (Option.some (Jvm.ClassFile.FieldType.object "com/example/attestry/attestry/bundle/Usage")))).before a0 Z = true := hw _ (List.mem_of_getElem? (i := 43) rfl)
theorem pd7 : parseMethodDescriptor "()Lcom/example/attestry/attestry/bundle/Usage;" = some ⟨[], some (.object "com/example/attestry/attestry/bundle/Usage")⟩ := by decide +kernel
theorem w42 {a0 : Array Value} {Z : State} (hw : ∀ d ∈ tables_1, d.before a0 Z = true) : ((Jvm.Cond.selects "com/example/attestry/attestry/bundle/ConditionPredicate" ({ cls := "com/example/attestry/attestry/bundle/ConditionPredicate", name := "whenHolds", desc := "()Lcom/example/attestry/attestry/bundle/Usage;" } : Jvm.MethodName) ({ cls := "com/example/attestry/attestry/bundle/ConditionPredicate", name := "whenHolds", desc := "()Lcom/example/attestry/attestry/bundle/Usage;" } : Jvm.MethodName))).before a0 Z = true := hw _ (List.mem_of_getElem? (i := 42) rfl)
theorem w41 {a0 : Array Value} {Z : State} (hw : ∀ d ∈ tables_1, d.before a0 Z = true) : ((Jvm.Cond.instanceMethod ({ cls := "com/example/attestry/attestry/bundle/ConditionPredicate", name := "whenHolds", desc := "()Lcom/example/attestry/attestry/bundle/Usage;" } : Jvm.MethodName))).before a0 Z = true := hw _ (List.mem_of_getElem? (i := 41) rfl)
theorem w39 {a0 : Array Value} {Z : State} (hw : ∀ d ∈ tables_1, d.before a0 Z = true) : ((Jvm.Cond.methodLink "com/example/attestry/attestry/bundle/ConditionPredicateUsagePinLaw" (47 : Nat) ({ cls := "com/example/attestry/attestry/bundle/ConditionPredicate", name := "whenHolds", desc := "()Lcom/example/attestry/attestry/bundle/Usage;" } : Jvm.MethodName))).before a0 Z = true := hw _ (List.mem_of_getElem? (i := 39) rfl)
theorem w40 {a0 : Array Value} {Z : State} (hw : ∀ d ∈ tables_1, d.before a0 Z = true) : ((Jvm.Cond.declares ({ cls := "com/example/attestry/attestry/bundle/ConditionPredicate", name := "whenHolds", desc := "()Lcom/example/attestry/attestry/bundle/Usage;" } : Jvm.MethodName))).before a0 Z = true := hw _ (List.mem_of_getElem? (i := 40) rfl)
theorem w48 {a0 : Array Value} {Z : State} (hw : ∀ d ∈ tables_1, d.before a0 Z = true) : ((Jvm.Cond.code ({ cls := "com/example/attestry/attestry/bundle/ConditionPredicate", name := "otherwise", desc := "()Lcom/example/attestry/attestry/bundle/Usage;" } : Jvm.MethodName) prog_21_method_10_code (1 : Nat) (Option.some (Jvm.ClassFile.FieldType.object "com/example/attestry/attestry/bundle/Usage")))).before a0 Z = true := hw _ (List.mem_of_getElem? (i := 48) rfl)
theorem w47 {a0 : Array Value} {Z : State} (hw : ∀ d ∈ tables_1, d.before a0 Z = true) : ((Jvm.Cond.selects "com/example/attestry/attestry/bundle/ConditionPredicate" ({ cls := "com/example/attestry/attestry/bundle/ConditionPredicate", name := "otherwise", desc := "()Lcom/example/attestry/attestry/bundle/Usage;" } : Jvm.MethodName) ({ cls := "com/example/attestry/attestry/bundle/ConditionPredicate", name := "otherwise", desc := "()Lcom/example/attestry/attestry/bundle/Usage;" } : Jvm.MethodName))).before a0 Z = true := hw _ (List.mem_of_getElem? (i := 47) rfl)
theorem w46 {a0 : Array Value} {Z : State} (hw : ∀ d ∈ tables_1, d.before a0 Z = true) : ((Jvm.Cond.instanceMethod ({ cls := "com/example/attestry/attestry/bundle/ConditionPredicate", name := "otherwise", desc := "()Lcom/example/attestry/attestry/bundle/Usage;" } : Jvm.MethodName))).before a0 Z = true := hw _ (List.mem_of_getElem? (i := 46) rfl)
theorem w44 {a0 : Array Value} {Z : State} (hw : ∀ d ∈ tables_1, d.before a0 Z = true) : ((Jvm.Cond.methodLink "com/example/attestry/attestry/bundle/ConditionPredicateUsagePinLaw" (51 : Nat) ({ cls := "com/example/attestry/attestry/bundle/ConditionPredicate", name := "otherwise", desc := "()Lcom/example/attestry/attestry/bundle/Usage;" } : Jvm.MethodName))).before a0 Z = true := hw _ (List.mem_of_getElem? (i := 44) rfl)
theorem w45 {a0 : Array Value} {Z : State} (hw : ∀ d ∈ tables_1, d.before a0 Z = true) : ((Jvm.Cond.declares ({ cls := "com/example/attestry/attestry/bundle/ConditionPredicate", name := "otherwise", desc := "()Lcom/example/attestry/attestry/bundle/Usage;" } : Jvm.MethodName))).before a0 Z = true := hw _ (List.mem_of_getElem? (i := 45) rfl)
set_option maxRecDepth 65536 in
set_option maxHeartbeats 40000000 in
theorem rm_law (l : Launch) (Z : State) (a0 : Array Value) (hw : ∀ d ∈ tables_1, d.before a0 Z = true) (ws : List Jvm.Cond) (x0 x1 : Int32) (A : Nat → Addr) (h0 : Heap) (n0 : Nat) (Z0 : n0 ≤ h0.size) (O0 : Old Z n0 h0) (SS : Sts Z A) :
    Con l Z x code maxLocals ret ws room_1 #[(.int x0), (.int x1)] h0 (fun v h L => v = some (.int 1) ∧ Fr n0 L) := by
  refine Con.enter (plainFor_of_name pn3) ?_
  intro p e s m below meth c s₁ X0 hx hZ hby hml hret hlk hown hnm e0
  have N0 := Fr.nil n0
  refine Go.cast (g' := (mkF m 0 #[.val (.int x0), .val (.int x1), .unset, .unset, .unset, .unset, .unset] [])) (by first | rfl | (simp [entryFrame, mkF, argsToLocals, Value.category, maxLocals]; done)) ?_
  refine Go.st (T' := s₁) (g' := (mkF m 1 #[.val (.int x0), .val (.int x1), .unset, .unset, .unset, .unset, .unset] [(.int x0)])) (fun _ zk => XS.iloadN X0.here hx rfl (hb hby at_0) rfl zk) ?_
  refine Go.callSt (y := (⟨"com/example/attestry/attestry/bundle/ConditionPredicateUsagePinLaw", "pick", "(I)Lcom/example/attestry/attestry/bundle/Usage;"⟩ : MethodName)) X0 hx hZ hown e0 (w0 hw) (w1 hw) (w2 hw) (w3 hw) (by decide) (argsL := [(.int x0)]) (rest := []) (W := 0) (rm_pick l Z a0 hw [] x0 A h0 n0 Z0 O0 SS) rfl (lenOf pd4 rfl) rfl (by rw [hml]; rfl) rfl (by show 2 * 0 + _ ≤ _; exact Nat.le_of_eq rfl) (by decide) (by decide) (by decide) (by decide) (hb hby at_1) ?_
  intro v1 T1 h1 L1 X1 e1 q1
  obtain ⟨u1, hv1, Nf1, hh1⟩ := q1
  subst hv1
  have E1 : T1.heap = h0 := e1.trans hh1
  have N1 := Fr.app N0 Nf1
  show Go p.tables e below _ T1 (mkF m 4 #[.val (.int x0), .val (.int x1), .unset, .unset, .unset, .unset, .unset] [(.ref u1)])
  refine Go.st (T' := T1) (g' := (mkF m 5 #[.val (.int x0), .val (.int x1), .val (.ref u1), .unset, .unset, .unset, .unset] [])) (fun _ zk => XS.astoreN X1.here hx rfl (hb hby at_4) rfl rfl (l' := #[.val (.int x0), .val (.int x1), .val (.ref u1), .unset, .unset, .unset, .unset]) rfl zk) ?_
  refine Go.st (T' := T1) (g' := (mkF m 6 #[.val (.int x0), .val (.int x1), .val (.ref u1), .unset, .unset, .unset, .unset] [(.int x1)])) (fun _ zk => XS.iloadN X1.here hx rfl (hb hby at_5) rfl zk) ?_
  refine Go.callSt (y := (⟨"com/example/attestry/attestry/bundle/ConditionPredicateUsagePinLaw", "pick", "(I)Lcom/example/attestry/attestry/bundle/Usage;"⟩ : MethodName)) X1 hx hZ hown E1 (w0 hw) (w1 hw) (w2 hw) (w3 hw) (by decide) (argsL := [(.int x1)]) (rest := []) (W := 0) (rm_pick l Z a0 hw [] x1 A h0 n0 Z0 O0 SS) rfl (lenOf pd4 rfl) rfl (by rw [hml]; rfl) rfl (by show 2 * 0 + _ ≤ _; exact Nat.le_of_eq rfl) (by decide) (by decide) (by decide) (by decide) (hb hby at_6) ?_
  intro v2 T2 h2 L2 X2 e2 q2
  obtain ⟨u2, hv2, Nf2, hh2⟩ := q2
  subst hv2
  have E2 : T2.heap = h0 := e2.trans hh2
  have N2 := Fr.app N1 Nf2
  show Go p.tables e below _ T2 (mkF m 9 #[.val (.int x0), .val (.int x1), .val (.ref u1), .unset, .unset, .unset, .unset] [(.ref u2)])
  refine Go.st (T' := T2) (g' := (mkF m 10 #[.val (.int x0), .val (.int x1), .val (.ref u1), .val (.ref u2), .unset, .unset, .unset] [])) (fun _ zk => XS.astoreN X2.here hx rfl (hb hby at_9) rfl rfl (l' := #[.val (.int x0), .val (.int x1), .val (.ref u1), .val (.ref u2), .unset, .unset, .unset]) rfl zk) ?_
  obtain ⟨T3, h3, X3, e3, E3, A3, D3, -, st3⟩ := newO X2 hx hZ hown (w10 hw) (w11 hw) (w12 hw) E2 (g := (mkF m 10 #[.val (.int x0), .val (.int x1), .val (.ref u1), .val (.ref u2), .unset, .unset, .unset] [])) rfl (hb hby at_10) (by decide) (by decide)
  obtain ⟨b3, g3⟩ : ∃ z, z = h0.size := ⟨_, rfl⟩
  rw [← g3] at A3 D3 st3
  have F3_id : Fld Z h3 b3 "com/example/attestry/attestry/bundle/ConditionPredicate" "id" "Ljava/lang/String;" .null := D3 (Or.inr (w25 hw)) (ty := (.object "java/lang/String")) (by decide)
  have F3_target : Fld Z h3 b3 "com/example/attestry/attestry/bundle/ConditionPredicate" "target" "Lcom/example/attestry/attestry/bundle/RulePlace;" .null := D3 (Or.inr (w27 hw)) (ty := (.object "com/example/attestry/attestry/bundle/RulePlace")) (by decide)
  have F3_when : Fld Z h3 b3 "com/example/attestry/attestry/bundle/ConditionPredicate" "when" "Lcom/example/attestry/attestry/bundle/Condition;" .null := D3 (Or.inr (w29 hw)) (ty := (.object "com/example/attestry/attestry/bundle/Condition")) (by decide)
  have F3_whenHolds : Fld Z h3 b3 "com/example/attestry/attestry/bundle/ConditionPredicate" "whenHolds" "Lcom/example/attestry/attestry/bundle/Usage;" .null := D3 (Or.inr (w31 hw)) (ty := (.object "com/example/attestry/attestry/bundle/Usage")) (by decide)
  have F3_otherwise : Fld Z h3 b3 "com/example/attestry/attestry/bundle/ConditionPredicate" "otherwise" "Lcom/example/attestry/attestry/bundle/Usage;" .null := D3 (Or.inr (w33 hw)) (ty := (.object "com/example/attestry/attestry/bundle/Usage")) (by decide)
  refine Go.st (T' := T3) (g' := (mkF m 13 #[.val (.int x0), .val (.int x1), .val (.ref u1), .val (.ref u2), .unset, .unset, .unset] [(.ref b3)])) (fun _ zk => st3 _ zk) ?_
  refine Go.st (T' := T3) (g' := (mkF m 14 #[.val (.int x0), .val (.int x1), .val (.ref u1), .val (.ref u2), .unset, .unset, .unset] [(.ref b3), (.ref b3)])) (fun _ zk => XS.dup X3.here hx rfl (hb hby at_13) rfl rfl zk) ?_
  refine Go.st (T' := T3) (g' := (mkF m 15 #[.val (.int x0), .val (.int x1), .val (.ref u1), .val (.ref u2), .unset, .unset, .unset] [.null, (.ref b3), (.ref b3)])) (fun _ zk => XS.aconstNull X3.here hx rfl (hb hby at_14) zk) ?_
  refine Go.st (T' := T3) (g' := (mkF m 16 #[.val (.int x0), .val (.int x1), .val (.ref u1), .val (.ref u2), .unset, .unset, .unset] [.null, .null, (.ref b3), (.ref b3)])) (fun _ zk => XS.aconstNull X3.here hx rfl (hb hby at_15) zk) ?_
  refine Go.st (T' := T3) (g' := (mkF m 17 #[.val (.int x0), .val (.int x1), .val (.ref u1), .val (.ref u2), .unset, .unset, .unset] [.null, .null, .null, (.ref b3), (.ref b3)])) (fun _ zk => XS.aconstNull X3.here hx rfl (hb hby at_16) zk) ?_
  refine Go.st (T' := T3) (g' := (mkF m 18 #[.val (.int x0), .val (.int x1), .val (.ref u1), .val (.ref u2), .unset, .unset, .unset] [(.ref u1), .null, .null, .null, (.ref b3), (.ref b3)])) (fun _ zk => XS.aloadN X3.here hx rfl (hb hby at_17) rfl rfl zk) ?_
  refine Go.st (T' := T3) (g' := (mkF m 19 #[.val (.int x0), .val (.int x1), .val (.ref u1), .val (.ref u2), .unset, .unset, .unset] [(.ref u2), (.ref u1), .null, .null, .null, (.ref b3), (.ref b3)])) (fun _ zk => XS.aloadN X3.here hx rfl (hb hby at_18) rfl rfl zk) ?_
  refine Go.callSp (y := (⟨"com/example/attestry/attestry/bundle/ConditionPredicate", "<init>", "(Ljava/lang/String;Lcom/example/attestry/attestry/bundle/RulePlace;Lcom/example/attestry/attestry/bundle/Condition;Lcom/example/attestry/attestry/bundle/Usage;Lcom/example/attestry/attestry/bundle/Usage;)V"⟩ : MethodName)) (a := b3) X3 hx hZ hown e3 rfl (w13 hw) (w14 hw) (w12 hw) (w15 hw) (by decide) (argsL := [.null, .null, .null, (.ref u1), (.ref u2)]) (rest := [(.ref b3)]) (W := 1) (rm_cpInit l Z a0 hw [] b3 u1 u2 h3 n0 (Nat.le_trans Z0 E3.1) A3 (Nat.le_trans Z0 (Nat.le_trans (Nat.le_refl _) (Nat.le_of_eq g3.symm))) F3_id F3_target F3_when F3_whenHolds F3_otherwise) rfl (lenOf pd5 rfl) rfl (by rw [hml]; rfl) rfl (by show 2 * 0 + _ ≤ _; exact Nat.le_of_eq rfl) (by decide) (by decide) (by decide) (by decide) (hb hby at_19) ?_
  intro v4 T4 h4 L4 X4 e4 q4
  obtain ⟨hv4, Nf4, K4, G4_0, G4_1, G4_2, G4_3, G4_4⟩ := q4
  subst hv4
  have N4 := Fr.app N2 Nf4
  show Go p.tables e below _ T4 (mkF m 22 #[.val (.int x0), .val (.int x1), .val (.ref u1), .val (.ref u2), .unset, .unset, .unset] [(.ref b3)])
  refine Go.st (T' := T4) (g' := (mkF m 24 #[.val (.int x0), .val (.int x1), .val (.ref u1), .val (.ref u2), .val (.ref b3), .unset, .unset] [])) (fun _ zk => XS.astore X4.here hx rfl (hb hby at_22) rfl rfl (l' := #[.val (.int x0), .val (.int x1), .val (.ref u1), .val (.ref u2), .val (.ref b3), .unset, .unset]) rfl zk) ?_
  refine Go.st (T' := T4) (g' := (mkF m 26 #[.val (.int x0), .val (.int x1), .val (.ref u1), .val (.ref u2), .val (.ref b3), .unset, .unset] [(.ref b3)])) (fun _ zk => XS.aload X4.here hx rfl (hb hby at_24) rfl rfl zk) ?_
  refine Go.st (T' := T4) (g' := (mkF m 27 #[.val (.int x0), .val (.int x1), .val (.ref u1), .val (.ref u2), .val (.ref b3), .unset, .unset] [(.int (1 : Int32)), (.ref b3)])) (fun _ zk => XS.iconst X4.here hx rfl (hb hby at_26) zk) ?_
  have f6 := (A3.keep K4)
  refine Go.callV (y := (⟨"com/example/attestry/attestry/bundle/ConditionPredicate", "usage", "(Z)Lcom/example/attestry/attestry/bundle/Usage;"⟩ : MethodName)) (z := (⟨"com/example/attestry/attestry/bundle/ConditionPredicate", "usage", "(Z)Lcom/example/attestry/attestry/bundle/Usage;"⟩ : MethodName)) (C := "com/example/attestry/attestry/bundle/ConditionPredicate") (a := b3) X4 hx hZ hown e4 (w34 hw) (w35 hw) (w37 hw) (w36 hw) (w12 hw) (w38 hw) (notFace_of_selects (args := #[]) (mvT hZ (w37 hw))) (by decide) f6 (argsL := [(.int (1 : Int32))]) (rest := []) (W := 0) (rm_usage1 l Z a0 hw [] b3 u1 h4 n0 (Nat.le_trans Z0 (Nat.le_trans E3.1 K4.1)) G4_3) rfl (lenOf pd6 rfl) rfl (by rw [hml]; rfl) rfl (by show 2 * 0 + _ ≤ _; exact Nat.le_of_eq rfl) (by decide) (by decide) (by decide) (by decide) (hb hby at_27) ?_
  intro v5 T5 h5 L5 X5 e5 q5
  obtain ⟨hv5, Nf5, hh5⟩ := q5
  subst hv5
  have E5 : T5.heap = h4 := e5.trans hh5
  have N5 := Fr.app N4 Nf5
  show Go p.tables e below _ T5 (mkF m 30 #[.val (.int x0), .val (.int x1), .val (.ref u1), .val (.ref u2), .val (.ref b3), .unset, .unset] [(.ref u1)])
  refine Go.st (T' := T5) (g' := (mkF m 32 #[.val (.int x0), .val (.int x1), .val (.ref u1), .val (.ref u2), .val (.ref b3), .val (.ref u1), .unset] [])) (fun _ zk => XS.astore X5.here hx rfl (hb hby at_30) rfl rfl (l' := #[.val (.int x0), .val (.int x1), .val (.ref u1), .val (.ref u2), .val (.ref b3), .val (.ref u1), .unset]) rfl zk) ?_
  refine Go.st (T' := T5) (g' := (mkF m 34 #[.val (.int x0), .val (.int x1), .val (.ref u1), .val (.ref u2), .val (.ref b3), .val (.ref u1), .unset] [(.ref b3)])) (fun _ zk => XS.aload X5.here hx rfl (hb hby at_32) rfl rfl zk) ?_
  refine Go.st (T' := T5) (g' := (mkF m 35 #[.val (.int x0), .val (.int x1), .val (.ref u1), .val (.ref u2), .val (.ref b3), .val (.ref u1), .unset] [(.int (0 : Int32)), (.ref b3)])) (fun _ zk => XS.iconst X5.here hx rfl (hb hby at_34) zk) ?_
  refine Go.callV (y := (⟨"com/example/attestry/attestry/bundle/ConditionPredicate", "usage", "(Z)Lcom/example/attestry/attestry/bundle/Usage;"⟩ : MethodName)) (z := (⟨"com/example/attestry/attestry/bundle/ConditionPredicate", "usage", "(Z)Lcom/example/attestry/attestry/bundle/Usage;"⟩ : MethodName)) (C := "com/example/attestry/attestry/bundle/ConditionPredicate") (a := b3) X5 hx hZ hown E5 (w34 hw) (w35 hw) (w37 hw) (w36 hw) (w12 hw) (w38 hw) (notFace_of_selects (args := #[]) (mvT hZ (w37 hw))) (by decide) f6 (argsL := [(.int (0 : Int32))]) (rest := []) (W := 0) (rm_usage0 l Z a0 hw [] b3 u2 h4 n0 (Nat.le_trans Z0 (Nat.le_trans E3.1 K4.1)) G4_4) rfl (lenOf pd6 rfl) rfl (by rw [hml]; rfl) rfl (by show 2 * 0 + _ ≤ _; exact Nat.le_of_eq rfl) (by decide) (by decide) (by decide) (by decide) (hb hby at_35) ?_
  intro v7 T7 h7 L7 X7 e7 q7
  obtain ⟨hv7, Nf7, hh7⟩ := q7
  subst hv7
  have E7 : T7.heap = h4 := e7.trans hh7
  have N7 := Fr.app N5 Nf7
  show Go p.tables e below _ T7 (mkF m 38 #[.val (.int x0), .val (.int x1), .val (.ref u1), .val (.ref u2), .val (.ref b3), .val (.ref u1), .unset] [(.ref u2)])
  refine Go.st (T' := T7) (g' := (mkF m 40 #[.val (.int x0), .val (.int x1), .val (.ref u1), .val (.ref u2), .val (.ref b3), .val (.ref u1), .val (.ref u2)] [])) (fun _ zk => XS.astore X7.here hx rfl (hb hby at_38) rfl rfl (l' := #[.val (.int x0), .val (.int x1), .val (.ref u1), .val (.ref u2), .val (.ref b3), .val (.ref u1), .val (.ref u2)]) rfl zk) ?_
  refine Go.st (T' := T7) (g' := (mkF m 42 #[.val (.int x0), .val (.int x1), .val (.ref u1), .val (.ref u2), .val (.ref b3), .val (.ref u1), .val (.ref u2)] [(.ref u1)])) (fun _ zk => XS.aload X7.here hx rfl (hb hby at_40) rfl rfl zk) ?_
  refine Go.st (T' := T7) (g' := (mkF m 43 #[.val (.int x0), .val (.int x1), .val (.ref u1), .val (.ref u2), .val (.ref b3), .val (.ref u1), .val (.ref u2)] [(.ref u1), (.ref u1)])) (fun _ zk => XS.aloadN X7.here hx rfl (hb hby at_42) rfl rfl zk) ?_
  refine Go.st (T' := T7) (g' := (mkF m 46 #[.val (.int x0), .val (.int x1), .val (.ref u1), .val (.ref u2), .val (.ref b3), .val (.ref u1), .val (.ref u2)] [])) (fun _ zk => Jvm.RoadKit.acmp (g := (mkF m 43 #[.val (.int x0), .val (.int x1), .val (.ref u1), .val (.ref u2), .val (.ref b3), .val (.ref u1), .val (.ref u2)] [(.ref u1), (.ref u1)])) X7 hx rfl rfl rfl (pc0 := 43) (pc' := 46) (same := true) rfl (hb hby at_43) rfl (decide_eq_true rfl) (by decide) (by decide) zk) ?_
  refine Go.st (T' := T7) (g' := (mkF m 48 #[.val (.int x0), .val (.int x1), .val (.ref u1), .val (.ref u2), .val (.ref b3), .val (.ref u1), .val (.ref u2)] [(.ref u2)])) (fun _ zk => XS.aload X7.here hx rfl (hb hby at_46) rfl rfl zk) ?_
  refine Go.st (T' := T7) (g' := (mkF m 49 #[.val (.int x0), .val (.int x1), .val (.ref u1), .val (.ref u2), .val (.ref b3), .val (.ref u1), .val (.ref u2)] [(.ref u2), (.ref u2)])) (fun _ zk => XS.aloadN X7.here hx rfl (hb hby at_48) rfl rfl zk) ?_
  refine Go.st (T' := T7) (g' := (mkF m 52 #[.val (.int x0), .val (.int x1), .val (.ref u1), .val (.ref u2), .val (.ref b3), .val (.ref u1), .val (.ref u2)] [])) (fun _ zk => Jvm.RoadKit.acmp (g := (mkF m 49 #[.val (.int x0), .val (.int x1), .val (.ref u1), .val (.ref u2), .val (.ref b3), .val (.ref u1), .val (.ref u2)] [(.ref u2), (.ref u2)])) X7 hx rfl rfl rfl (pc0 := 49) (pc' := 52) (same := true) rfl (hb hby at_49) rfl (decide_eq_true rfl) (by decide) (by decide) zk) ?_
  refine Go.st (T' := T7) (g' := (mkF m 54 #[.val (.int x0), .val (.int x1), .val (.ref u1), .val (.ref u2), .val (.ref b3), .val (.ref u1), .val (.ref u2)] [(.ref b3)])) (fun _ zk => XS.aload X7.here hx rfl (hb hby at_52) rfl rfl zk) ?_
  refine Go.callV (y := (⟨"com/example/attestry/attestry/bundle/ConditionPredicate", "whenHolds", "()Lcom/example/attestry/attestry/bundle/Usage;"⟩ : MethodName)) (z := (⟨"com/example/attestry/attestry/bundle/ConditionPredicate", "whenHolds", "()Lcom/example/attestry/attestry/bundle/Usage;"⟩ : MethodName)) (C := "com/example/attestry/attestry/bundle/ConditionPredicate") (a := b3) X7 hx hZ hown E7 (w39 hw) (w40 hw) (w42 hw) (w41 hw) (w12 hw) (w43 hw) (notFace_of_selects (args := #[]) (mvT hZ (w42 hw))) (by decide) f6 (argsL := []) (rest := []) (W := 0) (rm_whenHolds l Z a0 hw [] b3 u1 h4 n0 (Nat.le_trans Z0 (Nat.le_trans E3.1 K4.1)) G4_3) rfl (lenOf pd7 rfl) rfl (by rw [hml]; rfl) rfl (by show 2 * 0 + _ ≤ _; exact Nat.le_of_eq rfl) (by decide) (by decide) (by decide) (by decide) (hb hby at_54) ?_
  intro v8 T8 h8 L8 X8 e8 q8
  obtain ⟨hv8, Nf8, hh8⟩ := q8
  subst hv8
  have E8 : T8.heap = h4 := e8.trans hh8
  have N8 := Fr.app N7 Nf8
  show Go p.tables e below _ T8 (mkF m 57 #[.val (.int x0), .val (.int x1), .val (.ref u1), .val (.ref u2), .val (.ref b3), .val (.ref u1), .val (.ref u2)] [(.ref u1)])
  refine Go.st (T' := T8) (g' := (mkF m 58 #[.val (.int x0), .val (.int x1), .val (.ref u1), .val (.ref u2), .val (.ref b3), .val (.ref u1), .val (.ref u2)] [(.ref u1), (.ref u1)])) (fun _ zk => XS.aloadN X8.here hx rfl (hb hby at_57) rfl rfl zk) ?_
  refine Go.st (T' := T8) (g' := (mkF m 61 #[.val (.int x0), .val (.int x1), .val (.ref u1), .val (.ref u2), .val (.ref b3), .val (.ref u1), .val (.ref u2)] [])) (fun _ zk => Jvm.RoadKit.acmp (g := (mkF m 58 #[.val (.int x0), .val (.int x1), .val (.ref u1), .val (.ref u2), .val (.ref b3), .val (.ref u1), .val (.ref u2)] [(.ref u1), (.ref u1)])) X8 hx rfl rfl rfl (pc0 := 58) (pc' := 61) (same := true) rfl (hb hby at_58) rfl (decide_eq_true rfl) (by decide) (by decide) zk) ?_
  refine Go.st (T' := T8) (g' := (mkF m 63 #[.val (.int x0), .val (.int x1), .val (.ref u1), .val (.ref u2), .val (.ref b3), .val (.ref u1), .val (.ref u2)] [(.ref b3)])) (fun _ zk => XS.aload X8.here hx rfl (hb hby at_61) rfl rfl zk) ?_
  refine Go.callV (y := (⟨"com/example/attestry/attestry/bundle/ConditionPredicate", "otherwise", "()Lcom/example/attestry/attestry/bundle/Usage;"⟩ : MethodName)) (z := (⟨"com/example/attestry/attestry/bundle/ConditionPredicate", "otherwise", "()Lcom/example/attestry/attestry/bundle/Usage;"⟩ : MethodName)) (C := "com/example/attestry/attestry/bundle/ConditionPredicate") (a := b3) X8 hx hZ hown E8 (w44 hw) (w45 hw) (w47 hw) (w46 hw) (w12 hw) (w48 hw) (notFace_of_selects (args := #[]) (mvT hZ (w47 hw))) (by decide) f6 (argsL := []) (rest := []) (W := 0) (rm_otherwise l Z a0 hw [] b3 u2 h4 n0 (Nat.le_trans Z0 (Nat.le_trans E3.1 K4.1)) G4_4) rfl (lenOf pd7 rfl) rfl (by rw [hml]; rfl) rfl (by show 2 * 0 + _ ≤ _; exact Nat.le_of_eq rfl) (by decide) (by decide) (by decide) (by decide) (hb hby at_63) ?_
  intro v9 T9 h9 L9 X9 e9 q9
  obtain ⟨hv9, Nf9, hh9⟩ := q9
  subst hv9
  have E9 : T9.heap = h4 := e9.trans hh9
  have N9 := Fr.app N8 Nf9
  show Go p.tables e below _ T9 (mkF m 66 #[.val (.int x0), .val (.int x1), .val (.ref u1), .val (.ref u2), .val (.ref b3), .val (.ref u1), .val (.ref u2)] [(.ref u2)])
  refine Go.st (T' := T9) (g' := (mkF m 67 #[.val (.int x0), .val (.int x1), .val (.ref u1), .val (.ref u2), .val (.ref b3), .val (.ref u1), .val (.ref u2)] [(.ref u2), (.ref u2)])) (fun _ zk => XS.aloadN X9.here hx rfl (hb hby at_66) rfl rfl zk) ?_
  refine Go.st (T' := T9) (g' := (mkF m 70 #[.val (.int x0), .val (.int x1), .val (.ref u1), .val (.ref u2), .val (.ref b3), .val (.ref u1), .val (.ref u2)] [])) (fun _ zk => Jvm.RoadKit.acmp (g := (mkF m 67 #[.val (.int x0), .val (.int x1), .val (.ref u1), .val (.ref u2), .val (.ref b3), .val (.ref u1), .val (.ref u2)] [(.ref u2), (.ref u2)])) X9 hx rfl rfl rfl (pc0 := 67) (pc' := 70) (same := true) rfl (hb hby at_67) rfl (decide_eq_true rfl) (by decide) (by decide) zk) ?_
  refine Go.st (T' := T9) (g' := (mkF m 71 #[.val (.int x0), .val (.int x1), .val (.ref u1), .val (.ref u2), .val (.ref b3), .val (.ref u1), .val (.ref u2)] [(.int (1 : Int32))])) (fun _ zk => XS.iconst X9.here hx rfl (hb hby at_70) zk) ?_
  refine Go.st (T' := T9) (g' := (mkF m 75 #[.val (.int x0), .val (.int x1), .val (.ref u1), .val (.ref u2), .val (.ref b3), .val (.ref u1), .val (.ref u2)] [(.int (1 : Int32))])) (fun _ zk => XS.goto X9.here hx rfl (pc0 := 71) (pc' := 75) rfl (hb hby at_71) (by decide) (by decide) zk) ?_
  refine Go.retN X9 hx hlk hret rfl (by simp) (hb hby at_75) (by decide) (by decide) E9 ?_
  exact ⟨rfl, N9⟩
theorem w6 {a0 : Array Value} {Z : State} (hw : ∀ d ∈ tables_1, d.before a0 Z = true) : ((Jvm.Cond.initialized "com/example/attestry/attestry/bundle/Usage")).before a0 Z = true := hw _ (List.mem_of_getElem? (i := 6) rfl)
theorem w7 {a0 : Array Value} {Z : State} (hw : ∀ d ∈ tables_1, d.before a0 Z = true) : ((Jvm.Cond.laysStatic "com/example/attestry/attestry/bundle/Usage" "R" "Lcom/example/attestry/attestry/bundle/Usage;")).before a0 Z = true := hw _ (List.mem_of_getElem? (i := 7) rfl)
theorem w9 {a0 : Array Value} {Z : State} (hw : ∀ d ∈ tables_1, d.before a0 Z = true) : ((Jvm.Cond.laysStatic "com/example/attestry/attestry/bundle/Usage" "C" "Lcom/example/attestry/attestry/bundle/Usage;")).before a0 Z = true := hw _ (List.mem_of_getElem? (i := 9) rfl)
theorem w50 {a0 : Array Value} {Z : State} (hw : ∀ d ∈ tables_1, d.before a0 Z = true) : ((Jvm.Cond.laysStatic "com/example/attestry/attestry/bundle/Usage" "RE" "Lcom/example/attestry/attestry/bundle/Usage;")).before a0 Z = true := hw _ (List.mem_of_getElem? (i := 50) rfl)
theorem w52 {a0 : Array Value} {Z : State} (hw : ∀ d ∈ tables_1, d.before a0 Z = true) : ((Jvm.Cond.laysStatic "com/example/attestry/attestry/bundle/Usage" "X" "Lcom/example/attestry/attestry/bundle/Usage;")).before a0 Z = true := hw _ (List.mem_of_getElem? (i := 52) rfl)
theorem w54 {a0 : Array Value} {Z : State} (hw : ∀ d ∈ tables_1, d.before a0 Z = true) : ((Jvm.Cond.laysStatic "com/example/attestry/attestry/bundle/Usage" "O" "Lcom/example/attestry/attestry/bundle/Usage;")).before a0 Z = true := hw _ (List.mem_of_getElem? (i := 54) rfl)
theorem w56 {a0 : Array Value} {Z : State} (hw : ∀ d ∈ tables_1, d.before a0 Z = true) : ((Jvm.Cond.laysStatic "com/example/attestry/attestry/bundle/Usage" "CE" "Lcom/example/attestry/attestry/bundle/Usage;")).before a0 Z = true := hw _ (List.mem_of_getElem? (i := 56) rfl)
theorem w58 {a0 : Array Value} {Z : State} (hw : ∀ d ∈ tables_1, d.before a0 Z = true) : ((Jvm.Cond.laysStatic "com/example/attestry/attestry/bundle/Usage" "B" "Lcom/example/attestry/attestry/bundle/Usage;")).before a0 Z = true := hw _ (List.mem_of_getElem? (i := 58) rfl)
set_option maxRecDepth 65536 in
set_option maxHeartbeats 40000000 in
theorem comes_1 {Post : Tables → Env → Array Value → State → Outcome → State → Prop} (hpost : ∀ tb e args s v u, (limb_1_1.after args s (.returned v) u = true ∧ limb_1_2.after args s (.returned v) u = true ∧ True) → FrameEnd s (.returned v) u (Jvm.fieldLocs frame_1_writes args s ++ Jvm.arrayLocs frame_1_arrays args s ++ Jvm.staticLocs frame_1_statics s) 16 128 → Post tb e args s (.returned v) u) :
    ArmFor flags0 classFile x code maxLocals ret World_1 tables_1 room_1 Calls_1 rest_1 Pre_1 Post := by
  intro l hfl _ _ p e ha hc hk s m args below hf hA hF happ hP
  obtain ⟨hcalls, hrest, hpre⟩ := hP
  obtain ⟨-, -, -, hnamed, -, -, -, hat⟩ := (Spec.applies_iff hf).mp happ
  obtain ⟨hg, hn⟩ := and_e (Cond.before_iff.mp (show (Jvm.Cond.and given_1 narrow_1).before args s = true from hpre))
  obtain ⟨g0a, g0b⟩ := and_e hg
  obtain ⟨g1a, g1b⟩ := and_e g0b
  obtain ⟨w0', w1', rfl⟩ : ∃ w0' w1' : Value, args = #[w0', w1'] := by
    have hs : args.size = 2 := by simpa [Cond.value, given_1] using g0a
    obtain ⟨L⟩ := args
    match L, hs with
    | [w0', w1'], _ => exact ⟨w0', w1', rfl⟩
  have hw := fun d (hd : d ∈ tables_1) => atoms_spec (ws := Jvm.Cond.code x code maxLocals ret :: tables_1) hat d (List.mem_cons_of_mem _ hd)
  have hfit : Fit s := fun {y c} hc i hi => by
    obtain ⟨ha, rfl⟩ := Array.getElem?_eq_some_iff.mp hc
    have q := List.all_eq_true.mp ((Array.all_eq_true_iff_forall_mem.mp hF) _ (Array.getElem_mem ha)) i (List.mem_range.mpr hi)
    simpa [Array.getElem?_eq_getElem hi] using q
  obtain ⟨i0, ei0⟩ := is_v g1a
  obtain rfl : w0' = (.int i0) := Option.some.inj ei0
  obtain ⟨i1, ei1⟩ := is_v g1b
  obtain rfl : w1' = (.int i1) := Option.some.inj ei1
  obtain ⟨c0a, c0b⟩ := and_e hn
  obtain ⟨c1a, c1b⟩ := and_e c0b
  obtain ⟨c2a, c2b⟩ := and_e c1b
  obtain ⟨c3a, c3b⟩ := and_e c2b
  obtain ⟨c4a, c4b⟩ := and_e c3b
  obtain ⟨c5a, c5b⟩ := and_e c4b
  obtain ⟨sa0, ev0⟩ := exa_v c0a
  have sE0 : Exa s s.heap sa0 "com/example/attestry/attestry/bundle/Usage" := Exa.start ev0 c0a
  have sS0 : Sta s s.heap "com/example/attestry/attestry/bundle/Usage" "R" "Lcom/example/attestry/attestry/bundle/Usage;" (.ref sa0) := Sta.start ev0 (Or.inr ⟨(w6 hw), (w7 hw)⟩)
  obtain ⟨sa1, ev1⟩ := exa_v c1a
  have sE1 : Exa s s.heap sa1 "com/example/attestry/attestry/bundle/Usage" := Exa.start ev1 c1a
  have sS1 : Sta s s.heap "com/example/attestry/attestry/bundle/Usage" "C" "Lcom/example/attestry/attestry/bundle/Usage;" (.ref sa1) := Sta.start ev1 (Or.inr ⟨(w6 hw), (w9 hw)⟩)
  obtain ⟨sa2, ev2⟩ := exa_v c2a
  have sE2 : Exa s s.heap sa2 "com/example/attestry/attestry/bundle/Usage" := Exa.start ev2 c2a
  have sS2 : Sta s s.heap "com/example/attestry/attestry/bundle/Usage" "RE" "Lcom/example/attestry/attestry/bundle/Usage;" (.ref sa2) := Sta.start ev2 (Or.inr ⟨(w6 hw), (w50 hw)⟩)
  obtain ⟨sa3, ev3⟩ := exa_v c3a
  have sE3 : Exa s s.heap sa3 "com/example/attestry/attestry/bundle/Usage" := Exa.start ev3 c3a
  have sS3 : Sta s s.heap "com/example/attestry/attestry/bundle/Usage" "X" "Lcom/example/attestry/attestry/bundle/Usage;" (.ref sa3) := Sta.start ev3 (Or.inr ⟨(w6 hw), (w52 hw)⟩)
  obtain ⟨sa4, ev4⟩ := exa_v c4a
  have sE4 : Exa s s.heap sa4 "com/example/attestry/attestry/bundle/Usage" := Exa.start ev4 c4a
  have sS4 : Sta s s.heap "com/example/attestry/attestry/bundle/Usage" "O" "Lcom/example/attestry/attestry/bundle/Usage;" (.ref sa4) := Sta.start ev4 (Or.inr ⟨(w6 hw), (w54 hw)⟩)
  obtain ⟨sa5, ev5⟩ := exa_v c5a
  have sE5 : Exa s s.heap sa5 "com/example/attestry/attestry/bundle/Usage" := Exa.start ev5 c5a
  have sS5 : Sta s s.heap "com/example/attestry/attestry/bundle/Usage" "CE" "Lcom/example/attestry/attestry/bundle/Usage;" (.ref sa5) := Sta.start ev5 (Or.inr ⟨(w6 hw), (w56 hw)⟩)
  obtain ⟨sa6, ev6⟩ := exa_v c5b
  have sE6 : Exa s s.heap sa6 "com/example/attestry/attestry/bundle/Usage" := Exa.start ev6 c5b
  have sS6 : Sta s s.heap "com/example/attestry/attestry/bundle/Usage" "B" "Lcom/example/attestry/attestry/bundle/Usage;" (.ref sa6) := Sta.start ev6 (Or.inr ⟨(w6 hw), (w58 hw)⟩)
  obtain ⟨n, o, h1, h2, h3, _, L, rfl, ⟨rfl, N⟩, hq⟩ := rm_law l s _ hw tables_1 i0 i1 (fun i => ([sa0, sa2, sa4, sa1, sa5, sa3, sa6] : List Addr).getD i 0) s.heap s.heap.size (Nat.le_refl _) (Old.start s) ⟨sS0, sS2, sS4, sS1, sS5, sS3, sS6⟩ p e ha hc hk s m _ below hf ((Spec.applies_iff_loose hf).mp happ).1 ⟨rfl, State.Warmed39.refl s, rfl⟩ trivial
  exact ⟨n, _, h1, h2, h3, hpost _ _ _ _ _ _ ⟨Cond.after_iff.mpr rfl, Cond.after_iff.mpr (eq_i res_at (Term.int_eval (1)) rfl), trivial⟩ ⟨hq.1, hq.2.1, (hq.2.2.sift fun y hy => Or.inr (N y hy)).mono (by decide) (by decide)⟩⟩
theorem main_1_1 : Claimed_1_1 := comes_1 fun _ _ _ _ _ _ h hF => ⟨h.1, hF⟩
theorem main_1_2 : Claimed_1_2 := comes_1 fun _ _ _ _ _ _ h hF => ⟨h.2.1, hF⟩
end Jvm.Pilot.@@N@@
namespace Jvm.Pilot.@@N@@
open Jvm Jvm.ClassFile Sem Op Lib Jvm.Free Jvm.Stand Jvm.Pilot.@@N@@.Jvm.D
/-! MADE BY PROGRAM (witnessworld.py) out of the Statement's table words and the real class files: 14 classes; the members and pool entries that the words name. The judged class is class 1, her method 2. -/
namespace start1
open Jvm.ClassFile
def u (s : String) : CpInfo := .utf8 (stringToUtf16 s)
/-- a pool by its gaps: so many unusable entries, then the entry; so many at the end -/
def gap : Nat → List CpInfo → List CpInfo
  | 0, r => r
  | n + 1, r => .unusable :: gap n r
def poolList (es : List (Nat × CpInfo)) (last : Nat) : List CpInfo := es.foldr (fun e r => gap e.1 (e.2 :: r)) (gap last [])
def pool (es : List (Nat × CpInfo)) (last : Nat) : Array CpInfo := ⟨poolList es last⟩
def fileOf (pool : Array CpInfo) (this : Nat) (attrs : Array Attribute := #[]) (ms : Array MethodInfo := #[]) (fl : Nat := 33) (sup : Nat := 0) (ifs : Array Nat := #[]) (fds : Array FieldInfo := #[]) : ClassFile where
  minorVersion := 0
  majorVersion := 65
  constantPool := pool
  accessFlags := fl
  thisClass := this
  superClass := sup
  interfaces := ifs
  fields := fds
  methods := ms
  attributes := attrs
def plain (name : String) (sup : Option ClassId) : Class where
  name := name
  kind := .ordinary
  loader := none
  accessFlags := 33
  super := sup
  interfaces := #[]
  cf := none
  fields := #[]
  methods := #[]
  instanceTypes := #[]
  staticTypes := #[]
  resolved := #[]
  callSites := []
  init := .initialized
  statics := none
  mirror := none

def pool0 : Array CpInfo := pool [(5, u "<init>"), (0, u "()V"), (1, .class_ 10), (1, u "java/lang/Object")] 113

def k0c0 : Code := { maxStack := 0, maxLocals := 1, code := object_method_1_code, exceptionTable := #[], attributes := #[] }
def k0m0 : Method := { name := "<init>", desc := "()V", sig := { parameters := [], returnType := none }, accessFlags := 1, code := some k0c0 }
/-- java/lang/Object -/
def k0 : Class := { plain "java/lang/Object" none with
  accessFlags := 33
  interfaces := #[]
  cf := some (fileOf pool0 8 #[] #[{ accessFlags := 1, nameIndex := 5, descriptorIndex := 6, attributes := #[] }] 33 0 #[] #[])
  fields := #[]
  methods := #[k0m0]
  instanceTypes := #[]
  staticTypes := #[]
  resolved := Array.replicate 124 none
  statics := none }

def pool1 : Array CpInfo := pool [(2, .class_ 4), (1, u "java/lang/Object"), (0, u "<init>"), (0, u "()V"), (0, .integer 2147483647), (0, .fieldref 9 10), (0, .class_ 11), (0, .nameAndType 12 13), (0, u "com/example/attestry/attestry/bundle/Usage"), (0, u "R"), (0, u "Lcom/example/attestry/attestry/bundle/Usage;"), (0, .fieldref 9 15), (0, .nameAndType 16 13), (0, u "RE"), (0, .fieldref 9 18), (0, .nameAndType 19 13), (0, u "O"), (0, .fieldref 9 21), (0, .nameAndType 22 13), (0, u "C"), (0, .fieldref 9 24), (0, .nameAndType 25 13), (0, u "CE"), (0, .fieldref 9 27), (0, .nameAndType 28 13), (0, u "X"), (0, .fieldref 9 30), (0, .nameAndType 31 13), (0, u "B"), (0, .methodref 33 34), (0, .class_ 35), (0, .nameAndType 36 37), (0, u "com/example/attestry/attestry/bundle/ConditionPredicateUsagePinLaw"), (0, u "pick"), (0, u "(I)Lcom/example/attestry/attestry/bundle/Usage;"), (0, .class_ 39), (0, u "com/example/attestry/attestry/bundle/ConditionPredicate"), (0, .methodref 38 41), (0, .nameAndType 5 42), (0, u "(Ljava/lang/String;Lcom/example/attestry/attestry/bundle/RulePlace;Lcom/example/attestry/attestry/bundle/Condition;Lcom/example/attestry/attestry/bundle/Usage;Lcom/example/attestry/attestry/bundle/Usage;)V"), (0, .methodref 38 44), (0, .nameAndType 45 46), (0, u "usage"), (0, u "(Z)Lcom/example/attestry/attestry/bundle/Usage;"), (0, .methodref 38 48), (0, .nameAndType 49 50), (0, u "whenHolds"), (0, u "()Lcom/example/attestry/attestry/bundle/Usage;"), (0, .methodref 38 52), (0, .nameAndType 53 50), (0, u "otherwise"), (3, u "law"), (0, u "(II)Z")] 2

def k1m0 : Method := { name := "<init>", desc := "()V", sig := { parameters := [], returnType := none }, accessFlags := 1, code := none }
def k1c1 : Code := { maxStack := 2, maxLocals := 2, code := method_2_code, exceptionTable := #[], attributes := #[] }
def k1m1 : Method := { name := "pick", desc := "(I)Lcom/example/attestry/attestry/bundle/Usage;", sig := { parameters := [.int], returnType := some (.object "com/example/attestry/attestry/bundle/Usage") }, accessFlags := 10, code := some k1c1 }
def k1c2 : Code := { maxStack := 7, maxLocals := 7, code := code, exceptionTable := #[], attributes := #[] }
def k1m2 : Method := { name := "law", desc := "(II)Z", sig := { parameters := [.int, .int], returnType := some .boolean }, accessFlags := 9, code := some k1c2 }
/-- com/example/attestry/attestry/bundle/ConditionPredicateUsagePinLaw -/
def k1 : Class := { plain "com/example/attestry/attestry/bundle/ConditionPredicateUsagePinLaw" (some 0) with
  accessFlags := 49
  interfaces := #[]
  cf := some (fileOf pool1 33 #[] #[{ accessFlags := 1, nameIndex := 5, descriptorIndex := 6, attributes := #[] }, { accessFlags := 10, nameIndex := 36, descriptorIndex := 37, attributes := #[] }, { accessFlags := 9, nameIndex := 57, descriptorIndex := 58, attributes := #[] }] 49 2 #[] #[])
  fields := #[]
  methods := #[k1m0, k1m1, k1m2]
  instanceTypes := #[]
  staticTypes := #[]
  resolved := Array.replicate 61 none
  statics := none }

def pool2 : Array CpInfo := pool [(1, .class_ 2), (0, u "java/lang/constant/Constable"), (0, .class_ 4), (0, u "java/lang/Object")] 6

/-- java/lang/constant/Constable -/
def k2 : Class := { plain "java/lang/constant/Constable" (some 0) with
  accessFlags := 1537
  interfaces := #[]
  cf := some (fileOf pool2 1 #[] #[] 1537 3 #[] #[])
  fields := #[]
  methods := #[]
  instanceTypes := #[]
  staticTypes := #[]
  resolved := Array.replicate 11 none
  statics := none }

def pool3 : Array CpInfo := pool [(1, .class_ 2), (0, u "java/lang/Comparable"), (0, .class_ 4), (0, u "java/lang/Object")] 7

/-- java/lang/Comparable -/
def k3 : Class := { plain "java/lang/Comparable" (some 0) with
  accessFlags := 1537
  interfaces := #[]
  cf := some (fileOf pool3 1 #[] #[] 1537 3 #[] #[])
  fields := #[]
  methods := #[]
  instanceTypes := #[]
  staticTypes := #[]
  resolved := Array.replicate 12 none
  statics := none }

def pool4 : Array CpInfo := pool [(1, .class_ 2), (0, u "java/io/Serializable"), (0, .class_ 4), (0, u "java/lang/Object")] 2

/-- java/io/Serializable -/
def k4 : Class := { plain "java/io/Serializable" (some 0) with
  accessFlags := 1537
  interfaces := #[]
  cf := some (fileOf pool4 1 #[] #[] 1537 3 #[] #[])
  fields := #[]
  methods := #[]
  instanceTypes := #[]
  staticTypes := #[]
  resolved := Array.replicate 7 none
  statics := none }

def pool5 : Array CpInfo := pool [(2, .class_ 4), (1, u "java/lang/Enum"), (0, u "name"), (0, u "Ljava/lang/String;"), (2, u "ordinal"), (0, u "I"), (1, .class_ 14), (1, u "java/lang/Object"), (4, u "hash"), (86, .class_ 108), (1, u "java/lang/Enum$EnumDesc"), (2, .class_ 112), (0, u "java/lang/constant/Constable"), (0, .class_ 114), (0, u "java/lang/Comparable"), (0, .class_ 116), (0, u "java/io/Serializable")] 87

/-- java/lang/Enum -/
def k5 : Class := { plain "java/lang/Enum" (some 0) with
  accessFlags := 1057
  interfaces := #[2, 3, 4]
  cf := some (fileOf pool5 2 #[.nestMembers #[106]] #[] 1057 12 #[111, 113, 115] #[{ accessFlags := 18, nameIndex := 5, descriptorIndex := 6, attributes := #[] }, { accessFlags := 18, nameIndex := 9, descriptorIndex := 10, attributes := #[] }, { accessFlags := 2, nameIndex := 19, descriptorIndex := 10, attributes := #[] }])
  fields := #[{ name := "name", type := (.object "java/lang/String"), accessFlags := 18, slot := 0, constantValue := 0 }, { name := "ordinal", type := .int, accessFlags := 18, slot := 1, constantValue := 0 }, { name := "hash", type := .int, accessFlags := 2, slot := 2, constantValue := 0 }]
  methods := #[]
  instanceTypes := #[(.object "java/lang/String"), .int, .int]
  staticTypes := #[]
  resolved := Array.replicate 204 none
  statics := none }

def pool6 : Array CpInfo := pool [(1, .class_ 2), (0, u "com/example/attestry/attestry/bundle/Usage"), (2, u "R"), (0, u "Lcom/example/attestry/attestry/bundle/Usage;"), (2, u "RE"), (2, u "O"), (2, u "C"), (2, u "CE"), (2, u "X"), (2, u "B"), (2, u "$VALUES"), (0, u "[Lcom/example/attestry/attestry/bundle/Usage;"), (6, .class_ 37), (1, u "java/lang/Enum")] 43

/-- com/example/attestry/attestry/bundle/Usage -/
def k6 : Class := { plain "com/example/attestry/attestry/bundle/Usage" (some 5) with
  accessFlags := 16433
  interfaces := #[]
  cf := some (fileOf pool6 1 #[] #[] 16433 35 #[] #[{ accessFlags := 16409, nameIndex := 5, descriptorIndex := 6, attributes := #[] }, { accessFlags := 16409, nameIndex := 9, descriptorIndex := 6, attributes := #[] }, { accessFlags := 16409, nameIndex := 12, descriptorIndex := 6, attributes := #[] }, { accessFlags := 16409, nameIndex := 15, descriptorIndex := 6, attributes := #[] }, { accessFlags := 16409, nameIndex := 18, descriptorIndex := 6, attributes := #[] }, { accessFlags := 16409, nameIndex := 21, descriptorIndex := 6, attributes := #[] }, { accessFlags := 16409, nameIndex := 24, descriptorIndex := 6, attributes := #[] }, { accessFlags := 4122, nameIndex := 27, descriptorIndex := 28, attributes := #[] }])
  fields := #[{ name := "R", type := (.object "com/example/attestry/attestry/bundle/Usage"), accessFlags := 16409, slot := 0, constantValue := 0 }, { name := "RE", type := (.object "com/example/attestry/attestry/bundle/Usage"), accessFlags := 16409, slot := 1, constantValue := 0 }, { name := "O", type := (.object "com/example/attestry/attestry/bundle/Usage"), accessFlags := 16409, slot := 2, constantValue := 0 }, { name := "C", type := (.object "com/example/attestry/attestry/bundle/Usage"), accessFlags := 16409, slot := 3, constantValue := 0 }, { name := "CE", type := (.object "com/example/attestry/attestry/bundle/Usage"), accessFlags := 16409, slot := 4, constantValue := 0 }, { name := "X", type := (.object "com/example/attestry/attestry/bundle/Usage"), accessFlags := 16409, slot := 5, constantValue := 0 }, { name := "B", type := (.object "com/example/attestry/attestry/bundle/Usage"), accessFlags := 16409, slot := 6, constantValue := 0 }, { name := "$VALUES", type := (.array (.object "com/example/attestry/attestry/bundle/Usage")), accessFlags := 4122, slot := 7, constantValue := 0 }]
  methods := #[]
  instanceTypes := #[(.object "java/lang/String"), .int, .int]
  staticTypes := #[(.object "com/example/attestry/attestry/bundle/Usage"), (.object "com/example/attestry/attestry/bundle/Usage"), (.object "com/example/attestry/attestry/bundle/Usage"), (.object "com/example/attestry/attestry/bundle/Usage"), (.object "com/example/attestry/attestry/bundle/Usage"), (.object "com/example/attestry/attestry/bundle/Usage"), (.object "com/example/attestry/attestry/bundle/Usage"), (.array (.object "com/example/attestry/attestry/bundle/Usage"))]
  resolved := Array.replicate 81 none
  statics := some 0 }

def pool7 : Array CpInfo := pool [(1, .methodref 2 3), (0, .class_ 4), (0, .nameAndType 5 6), (0, u "java/lang/Object"), (0, u "<init>"), (0, u "()V"), (0, .class_ 8), (0, u "java/lang/Record")] 13

def k7c0 : Code := { maxStack := 1, maxLocals := 1, code := jdk_30_method_1_code, exceptionTable := #[], attributes := #[] }
def k7m0 : Method := { name := "<init>", desc := "()V", sig := { parameters := [], returnType := none }, accessFlags := 4, code := some k7c0 }
/-- java/lang/Record -/
def k7 : Class := { plain "java/lang/Record" (some 0) with
  accessFlags := 1057
  interfaces := #[]
  cf := some (fileOf pool7 7 #[] #[{ accessFlags := 4, nameIndex := 5, descriptorIndex := 6, attributes := #[] }] 1057 2 #[] #[])
  fields := #[]
  methods := #[k7m0]
  instanceTypes := #[]
  staticTypes := #[]
  resolved := Array.replicate 22 none
  statics := none }

def pool8 : Array CpInfo := pool [(1, .methodref 2 3), (0, .class_ 4), (0, .nameAndType 5 6), (0, u "java/lang/Record"), (0, u "<init>"), (0, u "()V"), (0, .fieldref 8 9), (0, .class_ 10), (0, .nameAndType 11 12), (0, u "com/example/attestry/attestry/bundle/ConditionPredicate"), (0, u "id"), (0, u "Ljava/lang/String;"), (0, .fieldref 8 14), (0, .nameAndType 15 16), (0, u "target"), (0, u "Lcom/example/attestry/attestry/bundle/RulePlace;"), (0, .fieldref 8 18), (0, .nameAndType 19 20), (0, u "when"), (0, u "Lcom/example/attestry/attestry/bundle/Condition;"), (0, .fieldref 8 22), (0, .nameAndType 23 24), (0, u "whenHolds"), (0, u "Lcom/example/attestry/attestry/bundle/Usage;"), (0, .fieldref 8 26), (0, .nameAndType 27 24), (0, u "otherwise"), (12, u "(Ljava/lang/String;Lcom/example/attestry/attestry/bundle/RulePlace;Lcom/example/attestry/attestry/bundle/Condition;Lcom/example/attestry/attestry/bundle/Usage;Lcom/example/attestry/attestry/bundle/Usage;)V"), (3, u "usage"), (0, u "(Z)Lcom/example/attestry/attestry/bundle/Usage;"), (8, u "()Lcom/example/attestry/attestry/bundle/Usage;")] 24

def k8c0 : Code := { maxStack := 2, maxLocals := 6, code := prog_21_method_1_code, exceptionTable := #[], attributes := #[] }
def k8m0 : Method := { name := "<init>", desc := "(Ljava/lang/String;Lcom/example/attestry/attestry/bundle/RulePlace;Lcom/example/attestry/attestry/bundle/Condition;Lcom/example/attestry/attestry/bundle/Usage;Lcom/example/attestry/attestry/bundle/Usage;)V", sig := { parameters := [(.object "java/lang/String"), (.object "com/example/attestry/attestry/bundle/RulePlace"), (.object "com/example/attestry/attestry/bundle/Condition"), (.object "com/example/attestry/attestry/bundle/Usage"), (.object "com/example/attestry/attestry/bundle/Usage")], returnType := none }, accessFlags := 1, code := some k8c0 }
def k8c1 : Code := { maxStack := 1, maxLocals := 2, code := prog_21_method_2_code, exceptionTable := #[], attributes := #[] }
def k8m1 : Method := { name := "usage", desc := "(Z)Lcom/example/attestry/attestry/bundle/Usage;", sig := { parameters := [.boolean], returnType := some (.object "com/example/attestry/attestry/bundle/Usage") }, accessFlags := 1, code := some k8c1 }
def k8c2 : Code := { maxStack := 1, maxLocals := 1, code := prog_21_method_9_code, exceptionTable := #[], attributes := #[] }
def k8m2 : Method := { name := "whenHolds", desc := "()Lcom/example/attestry/attestry/bundle/Usage;", sig := { parameters := [], returnType := some (.object "com/example/attestry/attestry/bundle/Usage") }, accessFlags := 1, code := some k8c2 }
def k8c3 : Code := { maxStack := 1, maxLocals := 1, code := prog_21_method_10_code, exceptionTable := #[], attributes := #[] }
def k8m3 : Method := { name := "otherwise", desc := "()Lcom/example/attestry/attestry/bundle/Usage;", sig := { parameters := [], returnType := some (.object "com/example/attestry/attestry/bundle/Usage") }, accessFlags := 1, code := some k8c3 }
/-- com/example/attestry/attestry/bundle/ConditionPredicate -/
def k8 : Class := { plain "com/example/attestry/attestry/bundle/ConditionPredicate" (some 7) with
  accessFlags := 49
  interfaces := #[]
  cf := some (fileOf pool8 8 #[] #[{ accessFlags := 1, nameIndex := 5, descriptorIndex := 40, attributes := #[] }, { accessFlags := 1, nameIndex := 44, descriptorIndex := 45, attributes := #[] }, { accessFlags := 1, nameIndex := 23, descriptorIndex := 54, attributes := #[] }, { accessFlags := 1, nameIndex := 27, descriptorIndex := 54, attributes := #[] }] 49 2 #[] #[{ accessFlags := 18, nameIndex := 11, descriptorIndex := 12, attributes := #[] }, { accessFlags := 18, nameIndex := 15, descriptorIndex := 16, attributes := #[] }, { accessFlags := 18, nameIndex := 19, descriptorIndex := 20, attributes := #[] }, { accessFlags := 18, nameIndex := 23, descriptorIndex := 24, attributes := #[] }, { accessFlags := 18, nameIndex := 27, descriptorIndex := 24, attributes := #[] }])
  fields := #[{ name := "id", type := (.object "java/lang/String"), accessFlags := 18, slot := 0, constantValue := 0 }, { name := "target", type := (.object "com/example/attestry/attestry/bundle/RulePlace"), accessFlags := 18, slot := 1, constantValue := 0 }, { name := "when", type := (.object "com/example/attestry/attestry/bundle/Condition"), accessFlags := 18, slot := 2, constantValue := 0 }, { name := "whenHolds", type := (.object "com/example/attestry/attestry/bundle/Usage"), accessFlags := 18, slot := 3, constantValue := 0 }, { name := "otherwise", type := (.object "com/example/attestry/attestry/bundle/Usage"), accessFlags := 18, slot := 4, constantValue := 0 }]
  methods := #[k8m0, k8m1, k8m2, k8m3]
  instanceTypes := #[(.object "java/lang/String"), (.object "com/example/attestry/attestry/bundle/RulePlace"), (.object "com/example/attestry/attestry/bundle/Condition"), (.object "com/example/attestry/attestry/bundle/Usage"), (.object "com/example/attestry/attestry/bundle/Usage")]
  staticTypes := #[]
  resolved := Array.replicate 79 none
  statics := none }

def pool9 : Array CpInfo := pool [(1, u "java/lang/Cloneable"), (0, .class_ 1), (0, u "java/lang/Object"), (0, .class_ 3)] 3

/-- java/lang/Cloneable -/
def k9 : Class := { plain "java/lang/Cloneable" (some 0) with
  accessFlags := 1537
  interfaces := #[]
  cf := some (fileOf pool9 2 #[] #[] 1537 4 #[] #[])
  fields := #[]
  methods := #[]
  instanceTypes := #[]
  staticTypes := #[]
  resolved := Array.replicate 8 none
  statics := none }

/-- the primitive byte -/
def k10 : Class := { plain "byte" none with kind := .primitive 'B', accessFlags := 0x411 }
/-- [B -/
def k11 : Class := { plain "[B" (some 0) with kind := .array 10 .byte, interfaces := #[9, 4], accessFlags := 1041 }

/-- the primitive int -/
def k12 : Class := { plain "int" none with kind := .primitive 'I', accessFlags := 0x411 }
/-- [I -/
def k13 : Class := { plain "[I" (some 0) with kind := .array 12 .int, interfaces := #[9, 4], accessFlags := 1041 }

def heap : Heap := #[{ cls := 6, slots := #[.ref 1, .ref 2, .ref 3, .ref 4, .ref 5, .ref 6, .ref 7, .null], vm := .statics 6 },
  { cls := 6, slots := #[.null, .int 0, .int 0], vm := .none },
  { cls := 6, slots := #[.null, .int 1, .int 0], vm := .none },
  { cls := 6, slots := #[.null, .int 2, .int 0], vm := .none },
  { cls := 6, slots := #[.null, .int 3, .int 0], vm := .none },
  { cls := 6, slots := #[.null, .int 4, .int 0], vm := .none },
  { cls := 6, slots := #[.null, .int 5, .int 0], vm := .none },
  { cls := 6, slots := #[.null, .int 6, .int 0], vm := .none }]
def classes : Array Class := #[k0, k1, k2, k3, k4, k5, k6, k7, k8, k9, k10, k11, k12, k13]
def interned : List (Array UInt16 × Addr) := []
def slotsUsed : Nat := 29
def theMethod : MethodId := ⟨1, 2⟩
def args0 : Array Value := #[.int 5, .int 6]
def aboutOver (below : List Frame) : State where
  vm := { classes := classes, interned := interned.toArray }
  heap := heap
  slotsUsed := slotsUsed
  threads := #[{ frames := .invoking theMethod args0 :: below }]
def below0 : List Frame := [.native { method := ⟨0, 0⟩, args := #[] }]
def about1 : State := aboutOver below0
def p0 : Program := .bare "" "" ""
def e0 : Env := launch0.env 0 0 0
theorem w_frames : about1.frames = Frame.invoking theMethod args0 :: below0 := rfl
set_option maxRecDepth 65536 in
theorem w_args : argsFit about1.vm theMethod args0 = true := by decide +kernel
set_option maxRecDepth 65536 in
theorem w_heap : heapFits about1 = true := by decide +kernel
set_option maxRecDepth 65536 in
theorem w_runnable : about1.curStatus? = some .runnable := by decide +kernel
set_option maxRecDepth 65536 in
theorem w_alone : about1.alone = true := by decide +kernel
set_option maxRecDepth 65536 in
theorem w_named : about1.methodNamed? x = some theMethod := by decide +kernel
set_option maxRecDepth 65536 in
theorem w_hears : about1.hears theMethod below0 = true := by decide +kernel
set_option maxRecDepth 65536 in
theorem w_ripe : about1.ripe theMethod args0 below0 = true := by decide +kernel
theorem w_running : about1.status = .running := rfl
set_option maxRecDepth 65536 in
theorem w_room : about1.hasRoom e0.platform room_1 = true :=
  launch0.hasRoom_least _ room_1 (by decide +kernel) (by decide +kernel) (by decide +kernel) (by decide +kernel) (by decide +kernel) (by decide +kernel)
theorem allAtoms_all (ts : List Jvm.Cond) (a : Array Jvm.Value) (st : Jvm.State) : (allAtoms ts).before a st = ts.all (fun c => c.before a st) := by
  induction ts with
  | nil => rfl
  | cons c t ih =>
    show (Jvm.Cond.and c (allAtoms t)).before a st = _
    rw [Jvm.Cond.before_and, ih, List.all_cons]
def words1 : List Jvm.Cond := Jvm.Cond.code x code maxLocals ret :: tables_1
/-- a 'code' word, met by the world's own term for the bytes: nothing is compared byte by byte -/
theorem code_word {y : MethodName} {bytes : ByteArray} {mx : Nat} {rt : Option FieldType} {a : Array Value} {s : State} {m : MethodId} {meth : Method} {c : Code} (h1 : s.methodNamed? y = some m) (h2 : s.vm.method? m = some meth) (h3 : meth.code = some c) (h4 : c.code = bytes)
    (h5 : (c.maxLocals == mx && c.exceptionTable.isEmpty && decide (c.maxStack ≤ mostOperands) && decide (meth.sig.returnType = rt) && !meth.locks && decide (parseMethodDescriptor y.desc = some meth.sig)) = true) : (Jvm.Cond.code y bytes mx rt).before a s = true := by
  simp only [Bool.and_eq_true, beq_iff_eq, Bool.not_eq_true', decide_eq_true_eq] at h5
  obtain ⟨⟨⟨⟨⟨g1, g2⟩, g3⟩, g4⟩, g5⟩, g6⟩ := h5
  simp [Cond.before, Cond.holds, Cond.value, h1, h2, h3, h4, g1, g2, g3, g4, g5, g6]
def isCode : Jvm.Cond → Bool
  | .code _ _ _ _ => true
  | _ => false
theorem all_split {L : List Jvm.Cond} {P : Jvm.Cond → Bool} (h1 : L.all (fun c => isCode c || P c) = true) (h2 : ∀ c ∈ L.filter isCode, P c = true) : L.all P = true := by
  refine List.all_eq_true.mpr fun c hc => ?_
  have h := List.all_eq_true.mp h1 c hc
  rcases Bool.eq_false_or_eq_true (isCode c) with hi | hi
  · exact h2 c (List.mem_filter.mpr ⟨hc, hi⟩)
  · simpa [hi] using h
set_option maxRecDepth 65536 in
theorem w_c0 : (Jvm.Cond.code x code maxLocals ret).before args0 about1 = true := code_word (m := ⟨1, 2⟩) (meth := k1m2) (c := k1c2) (by decide +kernel) rfl rfl rfl (by decide +kernel)
set_option maxRecDepth 65536 in
theorem w_c1 : (Jvm.Cond.code ({ cls := "com/example/attestry/attestry/bundle/ConditionPredicateUsagePinLaw", name := "pick", desc := "(I)Lcom/example/attestry/attestry/bundle/Usage;" } : Jvm.MethodName) method_2_code (2 : Nat) (Option.some (Jvm.ClassFile.FieldType.object "com/example/attestry/attestry/bundle/Usage"))).before args0 about1 = true := code_word (m := ⟨1, 1⟩) (meth := k1m1) (c := k1c1) (by decide +kernel) rfl rfl rfl (by decide +kernel)
set_option maxRecDepth 65536 in
theorem w_c2 : (Jvm.Cond.code ({ cls := "com/example/attestry/attestry/bundle/ConditionPredicate", name := "<init>", desc := "(Ljava/lang/String;Lcom/example/attestry/attestry/bundle/RulePlace;Lcom/example/attestry/attestry/bundle/Condition;Lcom/example/attestry/attestry/bundle/Usage;Lcom/example/attestry/attestry/bundle/Usage;)V" } : Jvm.MethodName) prog_21_method_1_code (6 : Nat) (Option.none : Option Jvm.ClassFile.FieldType)).before args0 about1 = true := code_word (m := ⟨8, 0⟩) (meth := k8m0) (c := k8c0) (by decide +kernel) rfl rfl rfl (by decide +kernel)
set_option maxRecDepth 65536 in
theorem w_c3 : (Jvm.Cond.code ({ cls := "java/lang/Record", name := "<init>", desc := "()V" } : Jvm.MethodName) jdk_30_method_1_code (1 : Nat) (Option.none : Option Jvm.ClassFile.FieldType)).before args0 about1 = true := code_word (m := ⟨7, 0⟩) (meth := k7m0) (c := k7c0) (by decide +kernel) rfl rfl rfl (by decide +kernel)
set_option maxRecDepth 65536 in
theorem w_c4 : (Jvm.Cond.code ({ cls := "java/lang/Object", name := "<init>", desc := "()V" } : Jvm.MethodName) object_method_1_code (1 : Nat) (Option.none : Option Jvm.ClassFile.FieldType)).before args0 about1 = true := code_word (m := ⟨0, 0⟩) (meth := k0m0) (c := k0c0) (by decide +kernel) rfl rfl rfl (by decide +kernel)
set_option maxRecDepth 65536 in
theorem w_c5 : (Jvm.Cond.code ({ cls := "com/example/attestry/attestry/bundle/ConditionPredicate", name := "usage", desc := "(Z)Lcom/example/attestry/attestry/bundle/Usage;" } : Jvm.MethodName) prog_21_method_2_code (2 : Nat) (Option.some (Jvm.ClassFile.FieldType.object "com/example/attestry/attestry/bundle/Usage"))).before args0 about1 = true := code_word (m := ⟨8, 1⟩) (meth := k8m1) (c := k8c1) (by decide +kernel) rfl rfl rfl (by decide +kernel)
set_option maxRecDepth 65536 in
theorem w_c6 : (Jvm.Cond.code ({ cls := "com/example/attestry/attestry/bundle/ConditionPredicate", name := "whenHolds", desc := "()Lcom/example/attestry/attestry/bundle/Usage;" } : Jvm.MethodName) prog_21_method_9_code (1 : Nat) (Option.some (Jvm.ClassFile.FieldType.object "com/example/attestry/attestry/bundle/Usage"))).before args0 about1 = true := code_word (m := ⟨8, 2⟩) (meth := k8m2) (c := k8c2) (by decide +kernel) rfl rfl rfl (by decide +kernel)
set_option maxRecDepth 65536 in
theorem w_c7 : (Jvm.Cond.code ({ cls := "com/example/attestry/attestry/bundle/ConditionPredicate", name := "otherwise", desc := "()Lcom/example/attestry/attestry/bundle/Usage;" } : Jvm.MethodName) prog_21_method_10_code (1 : Nat) (Option.some (Jvm.ClassFile.FieldType.object "com/example/attestry/attestry/bundle/Usage"))).before args0 about1 = true := code_word (m := ⟨8, 3⟩) (meth := k8m3) (c := k8c3) (by decide +kernel) rfl rfl rfl (by decide +kernel)
def codes1 : List Jvm.Cond := [Jvm.Cond.code x code maxLocals ret, Jvm.Cond.code ({ cls := "com/example/attestry/attestry/bundle/ConditionPredicateUsagePinLaw", name := "pick", desc := "(I)Lcom/example/attestry/attestry/bundle/Usage;" } : Jvm.MethodName) method_2_code (2 : Nat) (Option.some (Jvm.ClassFile.FieldType.object "com/example/attestry/attestry/bundle/Usage")), Jvm.Cond.code ({ cls := "com/example/attestry/attestry/bundle/ConditionPredicate", name := "<init>", desc := "(Ljava/lang/String;Lcom/example/attestry/attestry/bundle/RulePlace;Lcom/example/attestry/attestry/bundle/Condition;Lcom/example/attestry/attestry/bundle/Usage;Lcom/example/attestry/attestry/bundle/Usage;)V" } : Jvm.MethodName) prog_21_method_1_code (6 : Nat) (Option.none : Option Jvm.ClassFile.FieldType), Jvm.Cond.code ({ cls := "java/lang/Record", name := "<init>", desc := "()V" } : Jvm.MethodName) jdk_30_method_1_code (1 : Nat) (Option.none : Option Jvm.ClassFile.FieldType), Jvm.Cond.code ({ cls := "java/lang/Object", name := "<init>", desc := "()V" } : Jvm.MethodName) object_method_1_code (1 : Nat) (Option.none : Option Jvm.ClassFile.FieldType), Jvm.Cond.code ({ cls := "com/example/attestry/attestry/bundle/ConditionPredicate", name := "usage", desc := "(Z)Lcom/example/attestry/attestry/bundle/Usage;" } : Jvm.MethodName) prog_21_method_2_code (2 : Nat) (Option.some (Jvm.ClassFile.FieldType.object "com/example/attestry/attestry/bundle/Usage")), Jvm.Cond.code ({ cls := "com/example/attestry/attestry/bundle/ConditionPredicate", name := "whenHolds", desc := "()Lcom/example/attestry/attestry/bundle/Usage;" } : Jvm.MethodName) prog_21_method_9_code (1 : Nat) (Option.some (Jvm.ClassFile.FieldType.object "com/example/attestry/attestry/bundle/Usage")), Jvm.Cond.code ({ cls := "com/example/attestry/attestry/bundle/ConditionPredicate", name := "otherwise", desc := "()Lcom/example/attestry/attestry/bundle/Usage;" } : Jvm.MethodName) prog_21_method_10_code (1 : Nat) (Option.some (Jvm.ClassFile.FieldType.object "com/example/attestry/attestry/bundle/Usage"))]
set_option maxRecDepth 65536 in
theorem codes_eq : words1.filter isCode = codes1 := rfl
theorem w_codes : ∀ c ∈ words1.filter isCode, c.before args0 about1 = true := by
  rw [codes_eq]
  intro c hc
  simp only [codes1, List.mem_cons, List.not_mem_nil, or_false] at hc
  rcases hc with rfl | rfl | rfl | rfl | rfl | rfl | rfl | rfl
  · exact w_c0
  · exact w_c1
  · exact w_c2
  · exact w_c3
  · exact w_c4
  · exact w_c5
  · exact w_c6
  · exact w_c7
set_option maxRecDepth 65536 in
theorem w_t1 : (words1.take 24).all (fun c => isCode c || c.before args0 about1) = true := by decide +kernel
set_option maxRecDepth 65536 in
theorem w_t2 : ((words1.drop 24).take 24).all (fun c => isCode c || c.before args0 about1) = true := by decide +kernel
set_option maxRecDepth 65536 in
theorem w_t3 : ((words1.drop 24).drop 24).all (fun c => isCode c || c.before args0 about1) = true := by decide +kernel
theorem w_tables : (allAtoms (Jvm.Cond.code x code maxLocals ret :: tables_1)).before args0 about1 = true := by
  rw [allAtoms_all]
  show words1.all (fun c => c.before args0 about1) = true
  refine all_split ?_ w_codes
  rw [← List.take_append_drop 24 words1, List.all_append, w_t1, ← List.take_append_drop 24 (words1.drop 24), List.all_append, w_t2, w_t3]
  rfl
set_option maxRecDepth 65536 in
theorem w_case : (Jvm.Cond.and given_1 narrow_1).before args0 about1 = true := by decide +kernel
theorem w_applies : (headSpec (Jvm.Cond.code x code maxLocals ret :: tables_1) room_1).applies x e0.platform about1 = true :=
  (Spec.applies_iff w_frames).mpr ⟨w_running, w_runnable, w_alone, w_named, w_hears, w_ripe, w_room, w_tables⟩
theorem atStart : AtStart classFile x code maxLocals ret World_1 tables_1 room_1 Calls_1 rest_1 Pre_1 launch0 p0 e0 about1 theMethod args0 below0 :=
  ⟨lists_1, trivial, launch0.admits_env _ _ _, launch0.least_env, fairChoices_fair.cas, fairChoices_fair.clock, w_frames, w_args, w_heap, w_applies, trivial, trivial, w_case⟩
end start1
theorem witness_1 : WitnessClaimed_1 := ⟨start1.p0, start1.e0, start1.about1, start1.theMethod, start1.args0, start1.below0, start1.atStart⟩
end Jvm.Pilot.@@N@@
