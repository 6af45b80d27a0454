import JvmDerived
import JvmDerived.Pilot.@@N@@Statement
import JvmDerived.Pilot.@@N@@Code
set_option linter.unusedVariables false
set_option linter.unusedSimpArgs false
namespace Jvm.RoadKit
open Sem ClassFile Op Lib Jvm.Stand Jvm.Free Jvm.LawKit
section OwnGo
variable {p : Program} {l : Launch} {e : Env} {R : Room} {s : State} {m : MethodId} {args : Array Value} {below : List Frame} {meth : Method} {c : Code} {T T' : State} {locs : List Loc} {cells slots : Nat} {tb : Tables} {P : State → Outcome → Prop} {g g' : JFrame} {Z : State} {a0 : Array Value} {h h' : Heap}
/-- from here the run goes on to an end that P says -/
def Go (tb : Tables) (e : Env) (below : List Frame) (P : State → Outcome → Prop) (T : State) (g : JFrame) : Prop :=
  ∃ u o, Steps tb e below (T.setTop g) u ∧ u.status = .running ∧ Ended u below o ∧ P u o
theorem Go.st (st : ∀ target, Steps tb e below (T'.setTop g') target → Steps tb e below (T.setTop g) target) (k : Go tb e below P T' g') : Go tb e below P T g := by
  obtain ⟨u, o, h1, h2⟩ := k
  exact ⟨u, o, st u h1, h2⟩
theorem Go.tr (st : Steps tb e below (T.setTop g) (T'.setTop g')) (k : Go tb e below P T' g') : Go tb e below P T g := Go.st (fun _ h => st.trans h) k
theorem Go.cast (q : g = g') (k : Go tb e below P T g') : Go tb e below P T g := q ▸ k
/-- the end of a body that interns nothing -/
def FinP (s : State) (Q : Option Value → Heap → List Loc → Prop) (K N : Nat) (u : State) (o : Outcome) : Prop := ∃ v L, o = .returned v ∧ Q v u.heap L ∧ FrameEnd s o u L K N
theorem Go.retN {Q : Option Value → Heap → List Loc → Prop} {K N : Nat} (X : Stand p l e R s m args below meth c T locs cells slots) (hx : p.tables.exec = Jvm.exec) (hlk : meth.locks = false) {pc : Nat} {Ls : Array Slot} {z : Int32} {t : FieldType} {rest : List Value} (hret : meth.sig.returnType = some t)
    (hn : narrow t (.int z) = .int z) (ht : t = .int ∨ t = .boolean ∨ t = .byte ∨ t = .char ∨ t = .short) (hd : decode c.code pc = .ok (.ireturn, 1)) (hK : cells ≤ K) (hN : slots ≤ N) (eT : T.heap = h) (hQ : Q (some (.int z)) h locs) : Go p.tables e below (FinP s Q K N) T (mkF m pc Ls (.int z :: rest)) := by
  obtain ⟨fs, hr, hrun, hended, hW, hsame⟩ := X.leave (v := some (.int z)) (fun h => by rw [hret] at h; cases h) hlk
  exact ⟨_, _, retOut X hx hret hn (Or.inl ⟨rfl, ht, z, rfl⟩) hd hr, hrun, hended, _, _, rfl, (by rw [show (T.setFrames fs).heap = h from eT]; exact hQ), ⟨_, rfl⟩, hW, hsame.mono hK hN⟩
theorem Go.retL {Q : Option Value → Heap → List Loc → Prop} {K N : Nat} (X : Stand p l e R s m args below meth c T locs cells slots) (hx : p.tables.exec = Jvm.exec) (hlk : meth.locks = false) {pc : Nat} {Ls : Array Slot} {z : Int64} {rest : List Value} (hret : meth.sig.returnType = some .long)
    (hd : decode c.code pc = .ok (.lreturn, 1)) (hK : cells ≤ K) (hN : slots ≤ N) (eT : T.heap = h) (hQ : Q (some (.long z)) h locs) : Go p.tables e below (FinP s Q K N) T (mkF m pc Ls (.long z :: rest)) := by
  obtain ⟨fs, hr, hrun, hended, hW, hsame⟩ := X.leave (v := some (.long z)) (fun h => by rw [hret] at h; cases h) hlk
  exact ⟨_, _, retOut X hx hret rfl (Or.inr (Or.inl ⟨rfl, rfl, z, rfl⟩)) hd hr, hrun, hended, _, _, rfl, (by rw [show (T.setFrames fs).heap = h from eT]; exact hQ), ⟨_, rfl⟩, hW, hsame.mono hK hN⟩
theorem narrow_ref {t : FieldType} {w : Value} (ht : t.isReference = true) : narrow t w = w := by cases t <;> first | rfl | (cases w <;> rfl) | (simp [FieldType.isReference] at ht)
theorem Go.retA {Q : Option Value → Heap → List Loc → Prop} {K N : Nat} (X : Stand p l e R s m args below meth c T locs cells slots) (hx : p.tables.exec = Jvm.exec) (hlk : meth.locks = false) {pc : Nat} {Ls : Array Slot} {w : Value} {t : FieldType} {rest : List Value} (hret : meth.sig.returnType = some t)
    (ht : t.isReference = true) (hw : w.isRef = true) (hd : decode c.code pc = .ok (.areturn, 1)) (hK : cells ≤ K) (hN : slots ≤ N) (eT : T.heap = h) (hQ : Q (some w) h locs) : Go p.tables e below (FinP s Q K N) T (mkF m pc Ls (w :: rest)) := by
  obtain ⟨fs, hr, hrun, hended, hW, hsame⟩ := X.leave (v := some w) (fun h => by rw [hret] at h; cases h) hlk
  exact ⟨_, _, retOut X hx hret (narrow_ref ht) (Or.inr (Or.inr (Or.inr (Or.inr ⟨rfl, ht, hw⟩)))) hd hr, hrun, hended, _, _, rfl, (by rw [show (T.setFrames fs).heap = h from eT]; exact hQ), ⟨_, rfl⟩, hW, hsame.mono hK hN⟩
theorem Go.retV {Q : Option Value → Heap → List Loc → Prop} {K N : Nat} (X : Stand p l e R s m args below meth c T locs cells slots) (hx : p.tables.exec = Jvm.exec) (hlk : meth.locks = false) {pc : Nat} {Ls : Array Slot} (hret : meth.sig.returnType = none)
    (hd : decode c.code pc = .ok (.return_, 1)) (hK : cells ≤ K) (hN : slots ≤ N) (eT : T.heap = h) (hQ : Q none h locs) : Go p.tables e below (FinP s Q K N) T (mkF m pc Ls []) := by
  obtain ⟨fs, hr, hrun, hended, hW, hsame⟩ := X.leave (v := none) (fun _ => rfl) hlk
  exact ⟨_, _, X.returnOut hx hret hd hr, hrun, hended, _, _, rfl, (by rw [show (T.setFrames fs).heap = h from eT]; exact hQ), ⟨_, rfl⟩, hW, hsame.mono hK hN⟩
/-- a body's contract: called with as' at the heap h0 it returns as Q says -/
def Con (l : Launch) (Z : State) (y : MethodName) (bytes : ByteArray) (maxL : Nat) (ret : Option FieldType) (ws : List Cond) (rm : Room) (as' : Array Value) (h0 : Heap) (Q : Option Value → Heap → List Loc → Prop) : Prop :=
  MetFree l y (head1 (Cond.code y bytes maxL ret :: ws) rm) (fun a U => a = as' ∧ Z.Warmed39 U.vm ∧ U.heap = h0) (fun _ _ _ _ _ => True) (fun _ U o U' => ∃ v L, o = .returned v ∧ Q v U'.heap L ∧ FrameEnd U o U' L rm.cells rm.slots)
theorem Con.enter {y : MethodName} {bytes : ByteArray} {maxL : Nat} {ret : Option FieldType} {ws : List Cond} {rm : Room} {as' : Array Value} {h0 : Heap} {Q : Option Value → Heap → List Loc → Prop} (hp : plainFor y = true)
    (H : ∀ (p : Program) (e : Env) (s : State) (m : MethodId) (below : List Frame) (meth : Method) (c : Code) (s₁ : State), Stand p l e rm s m as' below meth c s₁ [] 0 0 → p.tables.exec = Jvm.exec → Z.Warmed39 s.vm → c.code = bytes → c.maxLocals = maxL → meth.sig.returnType = ret → meth.locks = false → s.vm.findClass y.cls = some m.cls → meth.name = y.name → s₁.heap = h0 →
      Go p.tables e below (FinP s Q rm.cells rm.slots) s₁ (entryFrame m as' maxL)) : Con l Z y bytes maxL ret ws rm as' h0 Q := by
  refine MetFree.of_bodySF hp hisR ?_
  intro p e s m args below meth c s₁ Bd hml0 hP hK
  obtain ⟨rfl, hZ, hh⟩ := hP
  exact H p e s m below meth c s₁ (Stand.of_body Bd) Bd.exec hZ Bd.bytes hml0 Bd.returns Bd.notSynchronized (findClass_of_methodNamed Bd.named) (name_of_methodNamed Bd.named Bd.method).1 (by rw [← hh, Bd.state]; rfl)
theorem Con.mono {y : MethodName} {bytes : ByteArray} {maxL : Nat} {ret : Option FieldType} {ws : List Cond} {rm : Room} {as' : Array Value} {h0 : Heap} {Q Q' : Option Value → Heap → List Loc → Prop} (C : Con l Z y bytes maxL ret ws rm as' h0 Q) (H : ∀ v h L, Q v h L → Q' v h L) : Con l Z y bytes maxL ret ws rm as' h0 Q' := by
  intro p e ha hc hk s m args below hf happ hP hK
  obtain ⟨n, o, h1, h2, h3, v, L, rfl, hq, hr⟩ := C p e ha hc hk s m args below hf happ hP hK
  exact ⟨n, _, h1, h2, h3, v, L, rfl, H _ _ _ hq, hr⟩
variable {y z : MethodName} {bytes : ByteArray} {maxL : Nat} {ret : Option FieldType} {rm : Room} {as' : Array Value} {Q : Option Value → Heap → List Loc → Prop} {W len : Nat} {own C owner : String} {index : Nat} {argsL rest : List Value}
/-- behind a call -/
theorem Go.back {vs : Array Value} {vm1 : Vm → Pt} {n : Nat} (H : ∃ (v : Option Value) (vm₁ : Vm) (B : Pt), s.WarmedH vm₁ ∧ Stand p l e R s m args below meth c B.U B.locs B.cells B.slots ∧ (∃ L, Q v B.U.heap L ∧ B.locs = locs ++ L ∧ B.cells = cells + rm.cells ∧ B.slots = slots + rm.slots) ∧
      Steps p.tables e below (T.setTop g) (B.U.setTop { g with pc := g.pc + n, stack := v.toList ++ rest }))
    (k : ∀ (v : Option Value) (T' : State) (h' : Heap) (L : List Loc), Stand p l e R s m args below meth c T' (locs ++ L) (cells + rm.cells) (slots + rm.slots) → T'.heap = h' → Q v h' L → Go p.tables e below P T' { g with pc := g.pc + n, stack := v.toList ++ rest }) : Go p.tables e below P T g := by
  obtain ⟨v, _, ⟨U, L1, k1, n1⟩, -, X', ⟨L, hQ, e1, e2, e3⟩, st⟩ := H
  have e1' : L1 = locs ++ L := e1
  have e2' : k1 = cells + rm.cells := e2
  have e3' : n1 = slots + rm.slots := e3
  subst e1' e2' e3'
  exact Go.tr st (k v U _ L X' rfl hQ)
theorem Go.callSt (X : Stand p l e R s m args below meth c T locs cells slots) (hx : p.tables.exec = Jvm.exec) (hZ : Z.Warmed39 s.vm) (hown : s.vm.findClass own = some m.cls) (eT : T.heap = h)
    (w1 : (Cond.methodLink own index y).before a0 Z = true) (w2 : (Cond.static y).before a0 Z = true) (w3 : (Cond.initialized y.cls).before a0 Z = true) (w4 : (Cond.code y bytes maxL ret).before a0 Z = true) (hy : y.cls ≠ "java/lang/invoke/MethodHandle" ∧ y.cls ≠ "java/lang/invoke/VarHandle")
    (hM : Con l Z y bytes maxL ret [] rm as' h Q) (ha : argsL.toArray = as') (hlen : ∀ sig, parseMethodDescriptor y.desc = some sig → argsL.length = sig.parameters.length) (hg : g.method = m) (hsize : g.locals.size = c.maxLocals) (hst : g.stack = argsL.reverse ++ rest)
    (hW : 2 * g.monitorRoom + (rest.map fun v => v.category).sum ≤ W) (hf : rm.frames + 1 ≤ R.frames) (hl : W + (maxL + 11) + rm.locals ≤ R.locals) (hc : cells + rm.cells ≤ R.cells) (hs : slots + rm.slots ≤ R.slots) (hd : decode c.code g.pc = .ok (.invokestatic index, 3))
    (k : ∀ (v : Option Value) (T' : State) (h' : Heap) (L : List Loc), Stand p l e R s m args below meth c T' (locs ++ L) (cells + rm.cells) (slots + rm.slots) → T'.heap = h' → Q v h' L → Go p.tables e below P T' { g with pc := g.pc + 3, stack := v.toList ++ rest }) : Go p.tables e below P T g := by
  obtain ⟨v, vm₁, B, q1, q2, q3, q4⟩ := Jvm.LawKit.callS X hx (y := y) (bytes := bytes) (maxL := maxL) (ret := ret) hown (mvT hZ w1) (mvT hZ w2) (mvT hZ w3) (mvT hZ w4) hy (backOf (W := W) (a0 := a0) hM hZ w4 w3 hf hl) (g := g) hg hsize (argsL := argsL) (rest := rest) hlen hst hW hd (fun _ _ => ⟨ha, eT, hc, hs⟩)
  exact Go.back (vs := as') (vm1 := fun _ => ⟨T, [], 0, 0⟩) ⟨v, vm₁, B, q1, q2, q3, q4 _ (Steps.refl _)⟩ k
theorem Go.callSp (X : Stand p l e R s m args below meth c T locs cells slots) (hx : p.tables.exec = Jvm.exec) (hZ : Z.Warmed39 s.vm) (hown : s.vm.findClass own = some m.cls) (eT : T.heap = h) (hy1 : y.name = "<init>")
    (w1 : (Cond.methodLink own index y).before a0 Z = true) (w2 : (Cond.instanceMethod y).before a0 Z = true) (w3 : (Cond.initialized y.cls).before a0 Z = true) (w4 : (Cond.code y bytes maxL none).before a0 Z = true) (hy : y.cls ≠ "java/lang/invoke/MethodHandle" ∧ y.cls ≠ "java/lang/invoke/VarHandle")
    {a : Addr} (hM : Con l Z y bytes maxL none [] rm as' h Q) (ha : (Value.ref a :: argsL).toArray = as') (hlen : ∀ sig, parseMethodDescriptor y.desc = some sig → argsL.length = sig.parameters.length) (hg : g.method = m) (hsize : g.locals.size = c.maxLocals) (hst : g.stack = argsL.reverse ++ .ref a :: rest)
    (hW : 2 * g.monitorRoom + (rest.map fun v => v.category).sum ≤ W) (hf : rm.frames + 1 ≤ R.frames) (hl : W + (maxL + 11) + rm.locals ≤ R.locals) (hc : cells + rm.cells ≤ R.cells) (hs : slots + rm.slots ≤ R.slots) (hd : decode c.code g.pc = .ok (.invokespecial index, 3))
    (k : ∀ (v : Option Value) (T' : State) (h' : Heap) (L : List Loc), Stand p l e R s m args below meth c T' (locs ++ L) (cells + rm.cells) (slots + rm.slots) → T'.heap = h' → Q v h' L → Go p.tables e below P T' { g with pc := g.pc + 3, stack := v.toList ++ rest }) : Go p.tables e below P T g := by
  exact Go.back (vs := as') (vm1 := fun _ => ⟨T, [], 0, 0⟩) (X.specialBack hx (y := y) hy1 hown (mvT hZ w1) (mvT hZ w2) (mvT hZ w4) hy (backOf (W := W) (a0 := a0) hM hZ w4 w3 hf hl) (g := g) hg hsize (Steps.refl _) (a := a) (argsL := argsL) (rest := rest) hlen hst hW hd (fun _ _ => ⟨ha, eT, hc, hs⟩)) k
theorem Go.callV (X : Stand p l e R s m args below meth c T locs cells slots) (hx : p.tables.exec = Jvm.exec) (hZ : Z.Warmed39 s.vm) (hown : s.vm.findClass own = some m.cls) (eT : T.heap = h)
    (w1 : (Cond.methodLink own index y).before a0 Z = true) (w2 : (Cond.declares y).before a0 Z = true) (w5 : (Cond.selects C y z).before a0 Z = true) (w6 : (Cond.instanceMethod z).before a0 Z = true) (w3 : (Cond.initialized z.cls).before a0 Z = true) (w4 : (Cond.code z bytes maxL ret).before a0 Z = true)
    (hnf : NotFace s y) (hy : y.cls ≠ "java/lang/invoke/MethodHandle" ∧ y.cls ≠ "java/lang/invoke/VarHandle")
    {a : Addr} (E : Exa Z h a C) (hM : Con l Z z bytes maxL ret [] rm as' h Q) (ha : (Value.ref a :: argsL).toArray = as') (hlen : ∀ sig, parseMethodDescriptor y.desc = some sig → argsL.length = sig.parameters.length) (hg : g.method = m) (hsize : g.locals.size = c.maxLocals) (hst : g.stack = argsL.reverse ++ .ref a :: rest)
    (hW : 2 * g.monitorRoom + (rest.map fun v => v.category).sum ≤ W) (hf : rm.frames + 1 ≤ R.frames) (hl : W + (maxL + 11) + rm.locals ≤ R.locals) (hc : cells + rm.cells ≤ R.cells) (hs : slots + rm.slots ≤ R.slots) (hd : decode c.code g.pc = .ok (.invokevirtual index, 3))
    (k : ∀ (v : Option Value) (T' : State) (h' : Heap) (L : List Loc), Stand p l e R s m args below meth c T' (locs ++ L) (cells + rm.cells) (slots + rm.slots) → T'.heap = h' → Q v h' L → Go p.tables e below P T' { g with pc := g.pc + 3, stack := v.toList ++ rest }) : Go p.tables e below P T g := by
  obtain ⟨cq, kq, qa, qb, qc⟩ := isOf hZ eT E
  exact Go.back (vs := as') (vm1 := fun _ => ⟨T, [], 0, 0⟩) (X.virtualBack hx (y := y) (z := z) hown (mvT hZ w1) (mvT hZ w2) hnf (mvT hZ w5) (mvT hZ w6) hy (backOf (W := W) (a0 := a0) hM hZ w4 w3 hf hl) qa qc (g := g) hg hsize (Steps.refl _) (argsL := argsL) (rest := rest) hlen hst hW hd (fun _ _ => ⟨ha, eT, hc, hs⟩)) k
theorem Go.callUp (X : Stand p l e R s m args below meth c T locs cells slots) (hx : p.tables.exec = Jvm.exec) (hZ : Z.Warmed39 s.vm) (hown : s.vm.findClass own = some m.cls) (eT : T.heap = h)
    (w1 : (Cond.methodLink own index y).before a0 Z = true) (w2 : (Cond.sameMethod y.cls owner y.name y.desc).before a0 Z = true) (w7 : (Cond.declares ⟨owner, y.name, y.desc⟩).before a0 Z = true) (hy : owner ≠ "java/lang/invoke/MethodHandle" ∧ owner ≠ "java/lang/invoke/VarHandle")
    (w5 : (Cond.selects C y z).before a0 Z = true) (w6 : (Cond.instanceMethod z).before a0 Z = true) (w3 : (Cond.initialized z.cls).before a0 Z = true) (w4 : (Cond.code z bytes maxL ret).before a0 Z = true)
    {a : Addr} (E : Exa Z h a C) (hM : Con l Z z bytes maxL ret [] rm as' h Q) (ha : (Value.ref a :: argsL).toArray = as') (hlen : ∀ sig, parseMethodDescriptor y.desc = some sig → argsL.length = sig.parameters.length) (hg : g.method = m) (hsize : g.locals.size = c.maxLocals) (hst : g.stack = argsL.reverse ++ .ref a :: rest)
    (hW : 2 * g.monitorRoom + (rest.map fun v => v.category).sum ≤ W) (hf : rm.frames + 1 ≤ R.frames) (hl : W + (maxL + 11) + rm.locals ≤ R.locals) (hc : cells + rm.cells ≤ R.cells) (hs : slots + rm.slots ≤ R.slots) (hd : decode c.code g.pc = .ok (.invokevirtual index, 3))
    (k : ∀ (v : Option Value) (T' : State) (h' : Heap) (L : List Loc), Stand p l e R s m args below meth c T' (locs ++ L) (cells + rm.cells) (slots + rm.slots) → T'.heap = h' → Q v h' L → Go p.tables e below P T' { g with pc := g.pc + 3, stack := v.toList ++ rest }) : Go p.tables e below P T g := by
  obtain ⟨cq, kq, qa, qb, qc⟩ := isOf hZ eT E
  exact Go.back (vs := as') (vm1 := fun _ => ⟨T, [], 0, 0⟩) (X.virtualBackUp hx (x := y) (y := z) hown (mvT hZ w1) (mvT hZ w2) (mvT hZ w7) hy (mvT hZ w5) (mvT hZ w6) (backOf (W := W) (a0 := a0) hM hZ w4 w3 hf hl) qa qc (g := g) hg hsize (Steps.refl _) (argsL := argsL) (rest := rest) hlen hst hW hd (fun _ _ => ⟨ha, eT, hc, hs⟩)) k
theorem ldCV (X : Stand p l e R s m args below meth c T locs cells slots) (hx : p.tables.exec = Jvm.exec) (hZ : Z.Warmed39 s.vm) (eT : T.heap = h) {a : Addr} {k : ClassId} {z : Int32} {vs : List Value} {d : Value} (F : Arv Z h a k .char z vs d) {j : Int32} (hj : ¬ j < 0 ∧ j < z) {v : Value} (hv : vs.getD j.toNatClampNeg d = v) {g : JFrame} (hg : g.method = m) {rest : List Value} (hs : g.stack = .int j :: .ref a :: rest) (hd : decode c.code g.pc = .ok (.caload, 1)) {target : State}
    (kk : Steps p.tables e below (T.setTop { g with pc := g.pc + 1, stack := v :: rest }) target) : Steps p.tables e below (T.setTop g) target := by
  obtain ⟨cl, A, q1, S, q3, H, G⟩ := F
  exact X.caload hx (j := j) (v := v) (by rw [eT]; exact A.1) (State.isArrayOf_alike hZ.alike A.2.1) A.2.2 (inb_of S hj) (H.at (inb_of S hj) hv) hg hs hd _ kk
theorem ldBV (X : Stand p l e R s m args below meth c T locs cells slots) (hx : p.tables.exec = Jvm.exec) (hZ : Z.Warmed39 s.vm) (eT : T.heap = h) {a : Addr} {k : ClassId} {z : Int32} {vs : List Value} {d : Value} (F : Arv Z h a k .byte z vs d) {j : Int32} (hj : ¬ j < 0 ∧ j < z) {v : Value} (hv : vs.getD j.toNatClampNeg d = v) {g : JFrame} (hg : g.method = m) {rest : List Value} (hs : g.stack = .int j :: .ref a :: rest) (hd : decode c.code g.pc = .ok (.baload, 1)) {target : State}
    (kk : Steps p.tables e below (T.setTop { g with pc := g.pc + 1, stack := v :: rest }) target) : Steps p.tables e below (T.setTop g) target := by
  obtain ⟨cl, A, q1, S, q3, H, G⟩ := F
  exact X.baloadBytes hx (j := j) (v := v) (by rw [eT]; exact A.1) (State.isArrayOf_alike hZ.alike A.2.1) A.2.2 (inb_of S hj) (H.at (inb_of S hj) hv) hg hs hd _ kk
theorem ldIV (X : Stand p l e R s m args below meth c T locs cells slots) (hx : p.tables.exec = Jvm.exec) (hZ : Z.Warmed39 s.vm) (eT : T.heap = h) {a : Addr} {k : ClassId} {z : Int32} {vs : List Value} {d : Value} (F : Arv Z h a k .int z vs d) {j : Int32} (hj : ¬ j < 0 ∧ j < z) {v : Value} (hv : vs.getD j.toNatClampNeg d = v) {g : JFrame} (hg : g.method = m) {rest : List Value} (hs : g.stack = .int j :: .ref a :: rest) (hd : decode c.code g.pc = .ok (.iaload, 1)) {target : State}
    (kk : Steps p.tables e below (T.setTop { g with pc := g.pc + 1, stack := v :: rest }) target) : Steps p.tables e below (T.setTop g) target := by
  obtain ⟨cl, A, q1, S, q3, H, G⟩ := F
  exact X.iaload hx (j := j) (v := v) (by rw [eT]; exact A.1) (State.isArrayOf_alike hZ.alike A.2.1) A.2.2 (inb_of S hj) (H.at (inb_of S hj) hv) hg hs hd _ kk
theorem ldRV (X : Stand p l e R s m args below meth c T locs cells slots) (hx : p.tables.exec = Jvm.exec) (hZ : Z.Warmed39 s.vm) (eT : T.heap = h) {a : Addr} {k : ClassId} {C : String} {z : Int32} {vs : List Value} {d : Value} (F : Arv Z h a k (.object C) z vs d) {j : Int32} (hj : ¬ j < 0 ∧ j < z) {v : Value} (hv : vs.getD j.toNatClampNeg d = v) {g : JFrame} (hg : g.method = m) {rest : List Value} (hs : g.stack = .int j :: .ref a :: rest) (hd : decode c.code g.pc = .ok (.aaload, 1)) {target : State}
    (kk : Steps p.tables e below (T.setTop { g with pc := g.pc + 1, stack := v :: rest }) target) : Steps p.tables e below (T.setTop g) target := by
  obtain ⟨cl, A, q1, S, q3, H, G⟩ := F
  exact X.aaload hx (j := j) (v := v) (by rw [eT]; exact A.1) (State.isArrayOf_alike hZ.alike A.2.1) rfl A.2.2 (inb_of S hj) (H.at (inb_of S hj) hv) hg hs hd _ kk
theorem lenV (X : Stand p l e R s m args below meth c T locs cells slots) (hx : p.tables.exec = Jvm.exec) (hZ : Z.Warmed39 s.vm) (eT : T.heap = h) {a : Addr} {k : ClassId} {ty : FieldType} {z : Int32} {vs : List Value} {d : Value} (F : Arv Z h a k ty z vs d) {g : JFrame} (hg : g.method = m) {rest : List Value} (hs : g.stack = .ref a :: rest) (hd : decode c.code g.pc = .ok (.arraylength, 1)) {target : State}
    (kk : Steps p.tables e below (T.setTop { g with pc := g.pc + 1, stack := .int z :: rest }) target) : Steps p.tables e below (T.setTop g) target := by
  obtain ⟨cl, A, q1, S, q3, H, G⟩ := F
  refine X.arraylength hx (by rw [eT]; exact A.1) (State.isArrayOf_alike hZ.alike A.2.1) hg hs hd _ ?_
  rw [len_of S q3]; exact kk
theorem stCV (X : Stand p l e R s m args below meth c T locs cells slots) (hx : p.tables.exec = Jvm.exec) (hZ : Z.Warmed39 s.vm) (eT : T.heap = h) {a : Addr} {k : ClassId} {z : Int32} {vs : List Value} {d : Value} (F : Arv Z h a k .char z vs d) {j x : Int32} {i : Nat} (hj : ¬ j < 0 ∧ j < z) (hi : j.toNatClampNeg = i) (hl : i < vs.length) {g : JFrame} (hg : g.method = m) {rest : List Value} (hs : g.stack = .int x :: .int j :: .ref a :: rest) (hd : decode c.code g.pc = .ok (.castore, 1)) :
    ∃ T' h', Stand p l e R s m args below meth c T' (locs ++ [⟨a, j.toNatClampNeg⟩]) cells slots ∧ T'.heap = h' ∧ Wr h h' a j.toNatClampNeg (.int (nar .char x)) ∧ Arv Z h' a k .char z (vs.set i (.int (nar .char x))) d ∧ ∀ target, Steps p.tables e below (T'.setTop { g with pc := g.pc + 1, stack := rest }) target → Steps p.tables e below (T.setTop g) target := by
  obtain ⟨cl, A, q1, S, q3, H, G⟩ := F
  obtain ⟨T', h', X', e', W, st⟩ := stC X hx hZ eT A (inb_of S hj) hg hs hd
  exact ⟨T', h', X', e', W, Arv.set A q1 S q3 H G (fits_nar_char _) W i hi hl, st⟩
theorem stBV (X : Stand p l e R s m args below meth c T locs cells slots) (hx : p.tables.exec = Jvm.exec) (hZ : Z.Warmed39 s.vm) (eT : T.heap = h) {a : Addr} {k : ClassId} {z : Int32} {vs : List Value} {d : Value} (F : Arv Z h a k .byte z vs d) {j x : Int32} {i : Nat} (hj : ¬ j < 0 ∧ j < z) (hi : j.toNatClampNeg = i) (hl : i < vs.length) {g : JFrame} (hg : g.method = m) {rest : List Value} (hs : g.stack = .int x :: .int j :: .ref a :: rest) (hd : decode c.code g.pc = .ok (.bastore, 1)) :
    ∃ T' h', Stand p l e R s m args below meth c T' (locs ++ [⟨a, j.toNatClampNeg⟩]) cells slots ∧ T'.heap = h' ∧ Wr h h' a j.toNatClampNeg (.int (nar .byte x)) ∧ Arv Z h' a k .byte z (vs.set i (.int (nar .byte x))) d ∧ ∀ target, Steps p.tables e below (T'.setTop { g with pc := g.pc + 1, stack := rest }) target → Steps p.tables e below (T.setTop g) target := by
  obtain ⟨cl, A, q1, S, q3, H, G⟩ := F
  obtain ⟨T', h', X', e', W, st⟩ := stB X hx hZ eT A (inb_of S hj) hg hs hd
  exact ⟨T', h', X', e', W, Arv.set A q1 S q3 H G (fits_nar_byte _) W i hi hl, st⟩
theorem eqv_r {Z : State} {args : Array Value} {X F : Term} {idx : List Nat} {y : Addr} (hF : F.eval args Z none idx Z = some (.ref y)) (h : (Cond.eq X F).value args Z none Z idx = some true) : X.eval args Z none idx Z = some (.ref y) := by
  cases hX : X.eval args Z none idx Z with
  | none => simp [Cond.value, hX] at h
  | some v => cases v <;> simp [Cond.value, hX, hF] at h ⊢; exact h
theorem Arv.startL {Z : State} {args : Array Value} {t : Term} {a : Addr} {ty : FieldType} {z : Int32} {vs : List Value} {dv : Value} (hf : Fit Z) (et : t.eval args Z none [] Z = some (.ref a)) (ha : (Cond.arrayOf t ty).value args Z none Z [] = some true) (hl : (Cond.eq (.length t) (.int z)).value args Z none Z [] = some true)
    (hz : ¬ z < 0) (hn : z.toNatClampNeg = vs.length) (H : ∀ c, Z.heap[a]? = some c → HasL c 0 vs) : ∃ k, Arv Z Z.heap a k ty z vs dv := by
  obtain ⟨c, A⟩ := Arr.start et ha
  obtain ⟨b, cell, e1, e2, e3, e4⟩ := Jvm.Lib.length_spec (eqv_i rfl hl)
  cases et.symm.trans e1
  cases (A.fin (Vm.Alike.refl _)).symm.trans e2
  exact ⟨c.cls, Arv.start hf A e3 (Value.int.inj e4).symm hz hn (H c A.1)⟩
theorem Keep.toExt (K : Keep h h' []) : Ext h h' := ⟨K.1, fun a c q => K.2.1 a c q (fun z => nomatch z)⟩
theorem Ext.toKeep (E : Ext h h') : Keep h h' [] := ⟨E.1, fun a c q _ => E.2 a c q, fun a c q => ⟨c, E.2 a c q, rfl, rfl, rfl⟩⟩
theorem Ext.refl (h : Heap) : Ext h h := ⟨Nat.le_refl _, fun _ _ q => q⟩
theorem Ext.tr {h2 : Heap} (A : Ext h h') (B : Ext h' h2) : Ext h h2 := ⟨Nat.le_trans A.1 B.1, fun a c q => B.2 a c (A.2 a c q)⟩
theorem Ext.thenK {h2 : Heap} {ws : List Addr} (A : Ext h h') (K : Keep h' h2 ws) (q : ∀ x ∈ ws, h.size ≤ x) : Ext h h2 := (A.toKeep.trans K fun x hx => Or.inr (q x hx)).toExt
theorem Ext.thenW {h2 : Heap} {a : Addr} {sl : Nat} {v : Value} (A : Ext h h') (W : Wr h' h2 a sl v) (q : h.size ≤ a) : Ext h h2 := (A.toKeep.wr W (Or.inr q)).toExt
theorem i2c_id {x : Int32} (h : 0 ≤ x.toInt ∧ x.toInt < 65536) : x.toUInt32.toUInt16.toUInt32.toInt32 = x := by
  have q := c_i2c x
  exact Int32.toInt_inj.mp (by omega)
theorem i2b_id {x : Int32} (h : -128 ≤ x.toInt ∧ x.toInt < 128) : x.toInt8.toInt32 = x := by
  have q := c_i2b x
  exact Int32.toInt_inj.mp (by omega)
theorem nar_b {x : Int32} : nar .byte (x.toInt8.toInt32) = x.toInt8.toInt32 := i2b_id (c_i2b x).2
theorem nar_c {x : Int32} : nar .char (x.toUInt32.toUInt16.toUInt32.toInt32) = x.toUInt32.toUInt16.toUInt32.toInt32 := i2c_id (c_i2c x).2
theorem nar_cid {x : Int32} (h : 0 ≤ x.toInt ∧ x.toInt < 65536) : nar .char x = x := i2c_id h
theorem and255 (x : Int32) : 0 ≤ ((x &&& 255).toUInt32.toUInt16.toUInt32.toInt32).toInt ∧ ((x &&& 255).toUInt32.toUInt16.toUInt32.toInt32).toInt ≤ 255 := by
  have h := c_mask x 255 8 (by decide) (by decide)
  have q := c_i2c (x &&& 255)
  omega
theorem le255 {x : Int32} (h : 0 ≤ x.toInt ∧ x.toInt ≤ 255) : ¬ (255 : Int32) < x := by rw [Int32.lt_iff_toInt_lt]; have : (255 : Int32).toInt = 255 := rfl; omega
theorem ne_lt {x b i j : Nat} (h1 : x < i) (h2 : i ≤ j) (h3 : j ≤ b) : x ≠ b := by omega
theorem own_add0 (n : Nat) : n + 0 = n := rfl
end OwnGo
end Jvm.RoadKit
namespace Jvm.RoadKit
open Sem ClassFile Op Lib Jvm.Stand Jvm.Free Jvm.LawKit
section OwnS
variable {p : Program} {l : Launch} {e : Env} {R : Room} {s : State} {m : MethodId} {args : Array Value} {below : List Frame} {meth : Method} {c : Code} {T T' : State} {locs : List Loc} {cells slots : Nat} {tb : Tables} {P : State → Outcome → Prop} {g g' : JFrame} {Z : State} {a0 : Array Value} {h h' h0 : Heap} {EL : List (String × Nat)} {vm0 : Vm} {k0 : Nat}
/-- the end of a body that may have interned its constants -/
def FinS (s Z : State) (EL : List (String × Nat)) (h0 : Heap) (Q : Option Value → Heap → List Loc → Prop) (K N : Nat) (u : State) (o : Outcome) : Prop := ∃ v L, o = .returned v ∧ Q v u.heap L ∧ CHr Z EL s.vm h0 u.vm u.heap ∧ ReturnedEndW s o u L K N
theorem Go.endS {Q : Option Value → Heap → List Loc → Prop} {K N : Nat} (X : Stand p l e R (s.setVm vm0) m args below meth c T locs cells slots) (hlk : meth.locks = false) (hS : s.Since vm0 k0) (hk : k0 ≤ h.size) (A : CHr Z EL s.vm h0 vm0 h) (hZ : Z.Warmed39 vm0) (hEL : EW Z a0 EL) (hK : cells ≤ K) (hN : slots ≤ N) (eT : T.heap = h)
    {v : Option Value} (hv : meth.sig.returnType = none → v = none) (hQ : Q v h locs)
    (run : ∀ fs, (∀ (f : JFrame) (acts : List Action), f.method = m → f.locked = none → f.entered = [] → (doReturn e (T.setTop f) acts v).1 = T.setFrames fs) → Steps p.tables e below (T.setTop g) (T.setFrames fs)) : Go p.tables e below (FinS s Z EL h0 Q K N) T g := by
  obtain ⟨fs, hr, hrun, hended, hE⟩ := Stand.leaveW (s := s) (vm₁ := vm0) X hS (by rw [eT]; exact hk) (v := v) hv hlk
  have hh : (T.setFrames fs).heap = h := eT
  refine ⟨_, _, run fs hr, hrun, hended, v, locs, rfl, by rw [hh]; exact hQ, ?_, hE.1, hE.2.1, hE.2.2.1, hE.2.2.2.mono hK hN⟩
  rw [hh]
  show CHr Z EL s.vm h0 T.vm h
  exact A.trans (CHv.at X hZ hEL A.1)
theorem Go.retNS {Q : Option Value → Heap → List Loc → Prop} {K N : Nat} (X : Stand p l e R (s.setVm vm0) m args below meth c T locs cells slots) (hx : p.tables.exec = Jvm.exec) (hlk : meth.locks = false) (hS : s.Since vm0 k0) (hk : k0 ≤ h.size) (A : CHr Z EL s.vm h0 vm0 h) (hZ : Z.Warmed39 vm0) (hEL : EW Z a0 EL) {pc : Nat} {Ls : Array Slot} {z : Int32} {t : FieldType} {rest : List Value} (hret : meth.sig.returnType = some t)
    (hn : narrow t (.int z) = .int z) (ht : t = .int ∨ t = .boolean ∨ t = .byte ∨ t = .char ∨ t = .short) (hd : decode c.code pc = .ok (.ireturn, 1)) (hK : cells ≤ K) (hN : slots ≤ N) (eT : T.heap = h) (hQ : Q (some (.int z)) h locs) : Go p.tables e below (FinS s Z EL h0 Q K N) T (mkF m pc Ls (.int z :: rest)) :=
  Go.endS X hlk hS hk A hZ hEL hK hN eT (fun q => by rw [hret] at q; cases q) hQ fun _ hr => retOut X hx hret hn (Or.inl ⟨rfl, ht, z, rfl⟩) hd hr
theorem Go.retAS {Q : Option Value → Heap → List Loc → Prop} {K N : Nat} (X : Stand p l e R (s.setVm vm0) m args below meth c T locs cells slots) (hx : p.tables.exec = Jvm.exec) (hlk : meth.locks = false) (hS : s.Since vm0 k0) (hk : k0 ≤ h.size) (A : CHr Z EL s.vm h0 vm0 h) (hZ : Z.Warmed39 vm0) (hEL : EW Z a0 EL) {pc : Nat} {Ls : Array Slot} {w : Value} {t : FieldType} {rest : List Value} (hret : meth.sig.returnType = some t)
    (ht : t.isReference = true) (hw : w.isRef = true) (hd : decode c.code pc = .ok (.areturn, 1)) (hK : cells ≤ K) (hN : slots ≤ N) (eT : T.heap = h) (hQ : Q (some w) h locs) : Go p.tables e below (FinS s Z EL h0 Q K N) T (mkF m pc Ls (w :: rest)) :=
  Go.endS X hlk hS hk A hZ hEL hK hN eT (fun q => by rw [hret] at q; cases q) hQ fun _ hr => retOut X hx hret (narrow_ref ht) (Or.inr (Or.inr (Or.inr (Or.inr ⟨rfl, ht, hw⟩)))) hd hr
theorem Go.retVS {Q : Option Value → Heap → List Loc → Prop} {K N : Nat} (X : Stand p l e R (s.setVm vm0) m args below meth c T locs cells slots) (hx : p.tables.exec = Jvm.exec) (hlk : meth.locks = false) (hS : s.Since vm0 k0) (hk : k0 ≤ h.size) (A : CHr Z EL s.vm h0 vm0 h) (hZ : Z.Warmed39 vm0) (hEL : EW Z a0 EL) {pc : Nat} {Ls : Array Slot} (hret : meth.sig.returnType = none)
    (hd : decode c.code pc = .ok (.return_, 1)) (hK : cells ≤ K) (hN : slots ≤ N) (eT : T.heap = h) (hQ : Q none h locs) : Go p.tables e below (FinS s Z EL h0 Q K N) T (mkF m pc Ls []) :=
  Go.endS X hlk hS hk A hZ hEL hK hN eT (fun _ => rfl) hQ fun _ hr => X.returnOut hx hret hd hr
/-- a body's contract where it may intern: the booked constants say their texts before and behind it -/
def ConS (l : Launch) (Z : State) (EL : List (String × Nat)) (y : MethodName) (bytes : ByteArray) (maxL : Nat) (ret : Option FieldType) (ws : List Cond) (rm : Room) (as' : Array Value) (h0 : Heap) (sl : List Addr) (Q : Option Value → Heap → List Loc → Prop) : Prop :=
  MetFree l y (head1 (Cond.code y bytes maxL ret :: ws) rm) (fun a U => a = as' ∧ Z.Warmed39 U.vm ∧ U.heap = h0 ∧ CHv Z EL U.vm h0 ∧ ∀ x ∈ sl, Safe Z EL U.vm h0 x) (fun _ _ _ _ _ => True) (fun _ U o U' => ∃ v L, o = .returned v ∧ Q v U'.heap L ∧ CHr Z EL U.vm U.heap U'.vm U'.heap ∧ ReturnedEndW U o U' L rm.cells rm.slots)
theorem ConS.enter {y : MethodName} {bytes : ByteArray} {maxL : Nat} {ret : Option FieldType} {ws : List Cond} {rm : Room} {as' : Array Value} {h0 : Heap} {sl : List Addr} {Q : Option Value → Heap → List Loc → Prop} (hp : plainFor y = true)
    (H : ∀ (p : Program) (e : Env) (s : State) (m : MethodId) (below : List Frame) (meth : Method) (c : Code) (s₁ : State), Stand p l e rm (s.setVm s.vm) m as' below meth c s₁ [] 0 0 → p.tables.exec = Jvm.exec → Z.Warmed39 s.vm → c.code = bytes → c.maxLocals = maxL → meth.sig.returnType = ret → meth.locks = false → s.vm.findClass y.cls = some m.cls → meth.name = y.name → s₁.heap = h0 → s.Since s.vm 0 → CHr Z EL s.vm h0 s.vm h0 → (∀ x ∈ sl, Safe Z EL s.vm h0 x) →
      Go p.tables e below (FinS s Z EL h0 Q rm.cells rm.slots) s₁ (entryFrame m as' maxL)) : ConS l Z EL y bytes maxL ret ws rm as' h0 sl Q := by
  refine MetFree.of_bodySF hp hisR ?_
  intro p e s m args below meth c s₁ Bd hml0 hP hK
  obtain ⟨rfl, hZ, hh, hC, hsf⟩ := hP
  obtain ⟨u, o, g1, g2, g3, v, L, g4, g5, g6, g7⟩ := H p e s m below meth c s₁ (Stand.of_body Bd) Bd.exec hZ Bd.bytes hml0 Bd.returns Bd.notSynchronized (findClass_of_methodNamed Bd.named) (name_of_methodNamed Bd.named Bd.method).1 (by rw [← hh, Bd.state]; rfl) ((State.WarmedH.refl s).since 0) (CHr.refl hC) hsf
  exact ⟨u, o, g1, g2, g3, v, L, g4, g5, by rw [hh]; exact g6, g7⟩
variable {y z : MethodName} {bytes : ByteArray} {maxL : Nat} {ret : Option FieldType} {rm : Room} {as' : Array Value} {sl : List Addr} {Q : Option Value → Heap → List Loc → Prop} {W len : Nat} {own C owner : String} {index : Nat} {argsL rest : List Value}
theorem backSL (hM : ConS l Z EL y bytes maxL ret [] rm as' h sl Q) (hZ : Z.Warmed39 vm0) (wc : (Cond.code y bytes maxL ret).before a0 Z = true) (wz : (Cond.initialized y.cls).before a0 Z = true) (hf : rm.frames + 1 ≤ R.frames) (hl : W + (maxL + 11) + rm.locals ≤ R.locals) (hEL : EW Z a0 EL) (H : CHv Z EL vm0 h) (hsf : ∀ x ∈ sl, x < h.size ∧ Safe Z EL vm0 h x) :
    BackS l R p e below (s.setVm vm0) args y len W (fun A a => a = as' ∧ A.U.heap = h ∧ A.cells + rm.cells ≤ R.cells ∧ A.slots + rm.slots ≤ R.slots)
      (fun A _ v B => ∃ L, Q v B.U.heap L ∧ B.locs = A.locs ++ L ∧ B.cells = A.cells + rm.cells ∧ B.slots = A.slots + rm.slots ∧ CHr Z EL vm0 h B.U.vm B.U.heap) := by
  refine BackS.of_freeW (bytes := bytes) (maxL := maxL) (ret := ret) (E := fun _ first o t L k n => k = rm.cells ∧ n = rm.slots ∧ (∃ v, o = .returned v ∧ Q v t.heap L) ∧ CHr Z EL first.vm first.heap t.vm t.heap) hM hf hl ?_ ?_ (fun _ _ _ _ _ _ _ _ _ => trivial) ?_ ?_
  · intro m meth c A a Y hp
    have hU : Z.Warmed39 A.U.vm := wtrans (s := s.setVm vm0) hZ Y.warmed
    exact ⟨by show (Cond.and _ .tt).before a A.U = true; rw [Cond.before_and, mv hU wc]; rfl, mv hU wc, mv hU wz, hp.2.2.1, hp.2.2.2⟩
  · intro m meth c A a g mk Y hp
    have q := CHv.at Y hZ hEL H
    exact ⟨hp.1, wtrans (s := s.setVm vm0) hZ Y.warmed, hp.2.1, q.1, fun x hx => q.safe (hsf x hx).1 (hsf x hx).2⟩
  · rintro _ _ _ _ ⟨v, L, h1, h2, h3, h4⟩
    exact ⟨L, _, _, h4, rfl, rfl, ⟨v, h1, h2⟩, h3⟩
  · rintro m meth c A a g mk v t L k n Y hp _ _ ⟨e1, e2, ⟨v', e3, e4⟩, e5⟩
    cases e3; subst e1 e2
    refine ⟨L, e4, rfl, rfl, rfl, (CHv.at Y hZ hEL H).trans ?_⟩
    rw [← hp.2.1]; exact e5
theorem Go.backS {n : Nat} (hZ : Z.Warmed39 vm0) (hown : vm0.findClass own = some m.cls) (hS : s.Since vm0 k0) (hk : k0 ≤ h.size) (eT : T.heap = h)
    (H : ∃ (v : Option Value) (vm₁ : Vm) (B : Pt), (s.setVm vm0).WarmedH vm₁ ∧ Stand p l e R ((s.setVm vm0).setVm B.U.vm) m args below meth c B.U B.locs B.cells B.slots ∧ (s.setVm vm0).Since B.U.vm B.U.heap.size ∧ T.heap.size ≤ B.U.heap.size ∧ (∃ L, Q v B.U.heap L ∧ B.locs = locs ++ L ∧ B.cells = cells + rm.cells ∧ B.slots = slots + rm.slots ∧ CHr Z EL vm0 h B.U.vm B.U.heap) ∧
      Steps p.tables e below (T.setTop g) (B.U.setTop { g with pc := g.pc + n, stack := v.toList ++ rest }))
    (k : ∀ (v : Option Value) (T' : State) (h' : Heap) (L : List Loc), Stand p l e R (s.setVm T'.vm) m args below meth c T' (locs ++ L) (cells + rm.cells) (slots + rm.slots) → T'.heap = h' → Q v h' L → s.Since T'.vm h'.size → Z.Warmed39 T'.vm → T'.vm.findClass own = some m.cls → CHr Z EL vm0 h T'.vm h' → Go p.tables e below P T' { g with pc := g.pc + n, stack := v.toList ++ rest }) : Go p.tables e below P T g := by
  obtain ⟨v, _, ⟨U, L1, k1, n1⟩, -, X', hS2, hge, ⟨L, hQ, e1, e2, e3, hC⟩, st⟩ := H
  have e1' : L1 = locs ++ L := e1
  have e2' : k1 = cells + rm.cells := e2
  have e3' : n1 = slots + rm.slots := e3
  subst e1' e2' e3'
  exact Go.tr st (k v U _ L X' rfl hQ (foldS (T := T) hS (by rw [eT]; exact hk) hS2 hge) (State.Warmed39.trans (t := s.setVm vm0) hZ hS2.1) (by rw [hS2.1.alike.findClass]; exact hown) hC)
theorem Go.callStS (X : Stand p l e R (s.setVm vm0) m args below meth c T locs cells slots) (hx : p.tables.exec = Jvm.exec) (hZ : Z.Warmed39 vm0) (hown : vm0.findClass own = some m.cls) (eT : T.heap = h) (hEL : EW Z a0 EL) (HC : CHv Z EL vm0 h) (hS : s.Since vm0 k0) (hk : k0 ≤ h.size)
    (w1 : (Cond.methodLink own index y).before a0 Z = true) (w2 : (Cond.static y).before a0 Z = true) (w3 : (Cond.initialized y.cls).before a0 Z = true) (w4 : (Cond.code y bytes maxL ret).before a0 Z = true) (hy : y.cls ≠ "java/lang/invoke/MethodHandle" ∧ y.cls ≠ "java/lang/invoke/VarHandle")
    (hM : ConS l Z EL y bytes maxL ret [] rm as' h sl Q) (hsf : ∀ x ∈ sl, x < h.size ∧ Safe Z EL vm0 h x) (ha : argsL.toArray = as') (hlen : ∀ sig, parseMethodDescriptor y.desc = some sig → argsL.length = sig.parameters.length) (hg : g.method = m) (hsize : g.locals.size = c.maxLocals) (hst : g.stack = argsL.reverse ++ rest)
    (hW : 2 * g.monitorRoom + (rest.map fun v => v.category).sum ≤ W) (hf : rm.frames + 1 ≤ R.frames) (hl : W + (maxL + 11) + rm.locals ≤ R.locals) (hc : cells + rm.cells ≤ R.cells) (hs : slots + rm.slots ≤ R.slots) (hd : decode c.code g.pc = .ok (.invokestatic index, 3))
    (k : ∀ (v : Option Value) (T' : State) (h' : Heap) (L : List Loc), Stand p l e R (s.setVm T'.vm) m args below meth c T' (locs ++ L) (cells + rm.cells) (slots + rm.slots) → T'.heap = h' → Q v h' L → s.Since T'.vm h'.size → Z.Warmed39 T'.vm → T'.vm.findClass own = some m.cls → CHr Z EL vm0 h T'.vm h' → Go p.tables e below P T' { g with pc := g.pc + 3, stack := v.toList ++ rest }) : Go p.tables e below P T g :=
  Go.backS hZ hown hS hk eT (callSS X hx (y := y) (bytes := bytes) (maxL := maxL) (ret := ret) hown (mvT (s := s.setVm vm0) hZ w1) (mvT (s := s.setVm vm0) hZ w2) (mvT (s := s.setVm vm0) hZ w3) (mvT (s := s.setVm vm0) hZ w4) hy (backSL (W := W) (a0 := a0) hM hZ w4 w3 hf hl hEL HC hsf) (g := g) hg hsize (argsL := argsL) (rest := rest) hlen hst hW hd (fun _ _ => ⟨ha, eT, hc, hs⟩)) k
theorem Go.callSpS (X : Stand p l e R (s.setVm vm0) m args below meth c T locs cells slots) (hx : p.tables.exec = Jvm.exec) (hZ : Z.Warmed39 vm0) (hown : vm0.findClass own = some m.cls) (eT : T.heap = h) (hEL : EW Z a0 EL) (HC : CHv Z EL vm0 h) (hS : s.Since vm0 k0) (hk : k0 ≤ h.size) (hy1 : y.name = "<init>")
    (w1 : (Cond.methodLink own index y).before a0 Z = true) (w2 : (Cond.instanceMethod y).before a0 Z = true) (w3 : (Cond.initialized y.cls).before a0 Z = true) (w4 : (Cond.code y bytes maxL none).before a0 Z = true) (hy : y.cls ≠ "java/lang/invoke/MethodHandle" ∧ y.cls ≠ "java/lang/invoke/VarHandle")
    {a : Addr} (hM : ConS l Z EL y bytes maxL none [] rm as' h sl Q) (hsf : ∀ x ∈ sl, x < h.size ∧ Safe Z EL vm0 h x) (ha : (Value.ref a :: argsL).toArray = as') (hlen : ∀ sig, parseMethodDescriptor y.desc = some sig → argsL.length = sig.parameters.length) (hg : g.method = m) (hsize : g.locals.size = c.maxLocals) (hst : g.stack = argsL.reverse ++ .ref a :: rest)
    (hW : 2 * g.monitorRoom + (rest.map fun v => v.category).sum ≤ W) (hf : rm.frames + 1 ≤ R.frames) (hl : W + (maxL + 11) + rm.locals ≤ R.locals) (hc : cells + rm.cells ≤ R.cells) (hs : slots + rm.slots ≤ R.slots) (hd : decode c.code g.pc = .ok (.invokespecial index, 3))
    (k : ∀ (v : Option Value) (T' : State) (h' : Heap) (L : List Loc), Stand p l e R (s.setVm T'.vm) m args below meth c T' (locs ++ L) (cells + rm.cells) (slots + rm.slots) → T'.heap = h' → Q v h' L → s.Since T'.vm h'.size → Z.Warmed39 T'.vm → T'.vm.findClass own = some m.cls → CHr Z EL vm0 h T'.vm h' → Go p.tables e below P T' { g with pc := g.pc + 3, stack := v.toList ++ rest }) : Go p.tables e below P T g :=
  Go.backS hZ hown hS hk eT (X.specialBackS hx (y := y) hy1 hown (mvT (s := s.setVm vm0) hZ w1) (mvT (s := s.setVm vm0) hZ w2) (mvT (s := s.setVm vm0) hZ w4) hy (backSL (W := W) (a0 := a0) hM hZ w4 w3 hf hl hEL HC hsf) (g := g) hg hsize (Steps.refl _) (a := a) (argsL := argsL) (rest := rest) hlen hst hW hd (fun _ _ => ⟨ha, eT, hc, hs⟩)) k
theorem Go.callVS (X : Stand p l e R (s.setVm vm0) m args below meth c T locs cells slots) (hx : p.tables.exec = Jvm.exec) (hZ : Z.Warmed39 vm0) (hown : vm0.findClass own = some m.cls) (eT : T.heap = h) (hEL : EW Z a0 EL) (HC : CHv Z EL vm0 h) (hS : s.Since vm0 k0) (hk : k0 ≤ h.size)
    (w1 : (Cond.methodLink own index y).before a0 Z = true) (w2 : (Cond.declares y).before a0 Z = true) (w5 : (Cond.selects C y z).before a0 Z = true) (w6 : (Cond.instanceMethod z).before a0 Z = true) (w3 : (Cond.initialized z.cls).before a0 Z = true) (w4 : (Cond.code z bytes maxL ret).before a0 Z = true)
    (hnf : NotFace (s.setVm vm0) y) (hy : y.cls ≠ "java/lang/invoke/MethodHandle" ∧ y.cls ≠ "java/lang/invoke/VarHandle")
    {a : Addr} (E : Exa Z h a C) (hM : ConS l Z EL z bytes maxL ret [] rm as' h sl Q) (hsf : ∀ x ∈ sl, x < h.size ∧ Safe Z EL vm0 h x) (ha : (Value.ref a :: argsL).toArray = as') (hlen : ∀ sig, parseMethodDescriptor y.desc = some sig → argsL.length = sig.parameters.length) (hg : g.method = m) (hsize : g.locals.size = c.maxLocals) (hst : g.stack = argsL.reverse ++ .ref a :: rest)
    (hW : 2 * g.monitorRoom + (rest.map fun v => v.category).sum ≤ W) (hf : rm.frames + 1 ≤ R.frames) (hl : W + (maxL + 11) + rm.locals ≤ R.locals) (hc : cells + rm.cells ≤ R.cells) (hs : slots + rm.slots ≤ R.slots) (hd : decode c.code g.pc = .ok (.invokevirtual index, 3))
    (k : ∀ (v : Option Value) (T' : State) (h' : Heap) (L : List Loc), Stand p l e R (s.setVm T'.vm) m args below meth c T' (locs ++ L) (cells + rm.cells) (slots + rm.slots) → T'.heap = h' → Q v h' L → s.Since T'.vm h'.size → Z.Warmed39 T'.vm → T'.vm.findClass own = some m.cls → CHr Z EL vm0 h T'.vm h' → Go p.tables e below P T' { g with pc := g.pc + 3, stack := v.toList ++ rest }) : Go p.tables e below P T g := by
  obtain ⟨cq, kq, qa, qb, qc⟩ := isOf (s := s.setVm vm0) hZ eT E
  exact Go.backS hZ hown hS hk eT (X.virtualBackS hx (y := y) (z := z) hown (mvT (s := s.setVm vm0) hZ w1) (mvT (s := s.setVm vm0) hZ w2) hnf (mvT (s := s.setVm vm0) hZ w5) (mvT (s := s.setVm vm0) hZ w6) hy (backSL (W := W) (a0 := a0) hM hZ w4 w3 hf hl hEL HC hsf) qa qc (g := g) hg hsize (Steps.refl _) (argsL := argsL) (rest := rest) hlen hst hW hd (fun _ _ => ⟨ha, eT, hc, hs⟩)) k
theorem chrE {vm1 : Vm} (A : CHr Z EL vm0 h0 vm1 h) (E : Ext h h') : CHr Z EL vm0 h0 vm1 h' := A.trans (CHr.ext E A.1)
theorem chrW {vm1 : Vm} {a : Addr} {sl : Nat} {v : Value} (A : CHr Z EL vm0 h0 vm1 h) (W : Wr h h' a sl v) (S : Safe Z EL vm1 h a) : CHr Z EL vm0 h0 vm1 h' := A.trans (CHr.wr W S A.1)
theorem chrK {vm1 : Vm} {ws : List Addr} (A : CHr Z EL vm0 h0 vm1 h) (K : Keep h h' ws) (S : ∀ x ∈ ws, Safe Z EL vm1 h x) : CHr Z EL vm0 h0 vm1 h' := A.trans (CHr.keep K S A.1)
end OwnS
end Jvm.RoadKit
namespace Jvm.Pilot.@@N@@
open Jvm Jvm.ClassFile Sem Op Lib Jvm.Free Jvm.Stand Jvm.LawKit Jvm.RoadKit Bundle Jvm.Pilot.@@N@@.Jvm.D
def EL0 : List (String × Nat) := [("java/lang/String", 7)]
theorem w19 {a0 : Array Value} {Z : State} (hw : ∀ d ∈ tables_1, d.before a0 Z = true) : ((Jvm.Cond.stringLink "java/lang/String" (7 : Nat) "")).before a0 Z = true := hw _ (List.mem_of_getElem? (i := 19) rfl)
theorem hEL0 {a0 : Array Value} {Z : State} (hw : ∀ d ∈ tables_1, d.before a0 Z = true) : EW Z a0 EL0 := (EW.cons (w19 hw) (by decide) EW.nil)
theorem hSt0 {a0 : Array Value} {Z : State} (hw : ∀ d ∈ tables_1, d.before a0 Z = true) : ∀ a ∈ Bundle.stringAtoms, a.before a0 Z = true := fun d hd => hw d ((by decide +kernel : ∀ d ∈ Bundle.stringAtoms, d ∈ tables_1) d hd)
theorem d6_0 : decode jdk_30_method_1_code 0 = .ok (.aload_n 0, 1) := by decide +kernel
theorem d6_1 : decode jdk_30_method_1_code 1 = .ok (.invokespecial 1, 3) := by decide +kernel
theorem w38 {a0 : Array Value} {Z : State} (hw : ∀ d ∈ tables_1, d.before a0 Z = true) : ((Jvm.Cond.methodLink "java/lang/Record" (1 : Nat) ({ cls := "java/lang/Object", name := "<init>", desc := "()V" } : Jvm.MethodName))).before a0 Z = true := hw _ (List.mem_of_getElem? (i := 38) rfl)
theorem w17 {a0 : Array Value} {Z : State} (hw : ∀ d ∈ tables_1, d.before a0 Z = true) : ((Jvm.Cond.instanceMethod ({ cls := "java/lang/Object", name := "<init>", desc := "()V" } : Jvm.MethodName))).before a0 Z = true := hw _ (List.mem_of_getElem? (i := 17) rfl)
theorem w18 {a0 : Array Value} {Z : State} (hw : ∀ d ∈ tables_1, d.before a0 Z = true) : ((Jvm.Cond.code ({ cls := "java/lang/Object", name := "<init>", desc := "()V" } : Jvm.MethodName) object_method_1_code (1 : Nat) (Option.none : Option Jvm.ClassFile.FieldType))).before a0 Z = true := hw _ (List.mem_of_getElem? (i := 18) rfl)
theorem d6_4 : decode jdk_30_method_1_code 4 = .ok (.return_, 1) := by decide +kernel
def rr_recInit : Room := { frames := 1, cells := 0, slots := 0, locals := 12 }
theorem pn0 : plainName "java/lang/Record" = true := by first | (simp [plainName, overriddenIn]; done) | decide +kernel
set_option maxRecDepth 65536 in
set_option maxHeartbeats 40000000 in
theorem rm_recInit (l : Launch) (Z : State) (a0 : Array Value) (hw : ∀ d ∈ tables_1, d.before a0 Z = true) (ws : List Jvm.Cond) (a1 : Addr) (h0 : Heap) (n0 : Nat) (Z0 : n0 ≤ h0.size)  :
    Con l Z (⟨"java/lang/Record", "<init>", "()V"⟩ : MethodName) jdk_30_method_1_code 1 none ws rr_recInit #[(.ref a1)] h0 (fun v h L => v = none ∧ Fr n0 L ∧ h = h0) := by
  refine Con.enter (plainFor_of_name pn0) ?_
  intro p e s m below meth c s₁ X0 hx hZ hby hml hret hlk hown hnm e0
  have N0 := Fr.nil n0
  refine Go.cast (g' := (mkF m 0 #[.val (.ref a1)] [])) (by first | rfl | (simp [entryFrame, mkF, argsToLocals, Value.category]; done)) ?_
  refine Go.st (T' := s₁) (g' := (mkF m 1 #[.val (.ref a1)] [(.ref a1)])) (fun _ zk => XS.aloadN X0.here hx rfl (hb hby d6_0) rfl rfl zk) ?_
  obtain ⟨T1, X1, e1, st1⟩ := initO X0 hx hZ hown (w38 hw) (w17 hw) (w18 hw) e0 (g := (mkF m 1 #[.val (.ref a1)] [(.ref a1)])) rfl (by rw [hml]; rfl) rfl (hb hby d6_1) (by decide) (W := 0) (by show 2 * 0 + _ ≤ _; exact Nat.le_of_eq rfl) (by decide)
  refine Go.st (T' := T1) (g' := (mkF m 4 #[.val (.ref a1)] [])) (fun _ zk => st1 _ zk) ?_
  refine Go.retV X1 hx hlk hret (hb hby d6_4) (by decide) (by decide) e1 ?_
  exact ⟨rfl, N0, rfl⟩
theorem d5_0 : decode prog_32_method_1_code 0 = .ok (.aload_n 0, 1) := by decide +kernel
theorem w37 {a0 : Array Value} {Z : State} (hw : ∀ d ∈ tables_1, d.before a0 Z = true) : ((Jvm.Cond.code ({ cls := "java/lang/Record", name := "<init>", desc := "()V" } : Jvm.MethodName) jdk_30_method_1_code (1 : Nat) (Option.none : Option Jvm.ClassFile.FieldType))).before a0 Z = true := hw _ (List.mem_of_getElem? (i := 37) rfl)
theorem w36 {a0 : Array Value} {Z : State} (hw : ∀ d ∈ tables_1, d.before a0 Z = true) : ((Jvm.Cond.initialized "java/lang/Record")).before a0 Z = true := hw _ (List.mem_of_getElem? (i := 36) rfl)
theorem pd1 : parseMethodDescriptor "()V" = some ⟨[], none⟩ := by decide +kernel
theorem d5_1 : decode prog_32_method_1_code 1 = .ok (.invokespecial 1, 3) := by decide +kernel
theorem w33 {a0 : Array Value} {Z : State} (hw : ∀ d ∈ tables_1, d.before a0 Z = true) : ((Jvm.Cond.methodLink "com/example/attestry/attestry/bundle/MessageType" (1 : Nat) ({ cls := "java/lang/Record", name := "<init>", desc := "()V" } : Jvm.MethodName))).before a0 Z = true := hw _ (List.mem_of_getElem? (i := 33) rfl)
theorem w34 {a0 : Array Value} {Z : State} (hw : ∀ d ∈ tables_1, d.before a0 Z = true) : ((Jvm.Cond.instanceMethod ({ cls := "java/lang/Record", name := "<init>", desc := "()V" } : Jvm.MethodName))).before a0 Z = true := hw _ (List.mem_of_getElem? (i := 34) rfl)
theorem d5_4 : decode prog_32_method_1_code 4 = .ok (.aload_n 0, 1) := by decide +kernel
theorem d5_5 : decode prog_32_method_1_code 5 = .ok (.aload_n 1, 1) := by decide +kernel
theorem d5_6 : decode prog_32_method_1_code 6 = .ok (.putfield 7, 3) := by decide +kernel
theorem w39 {a0 : Array Value} {Z : State} (hw : ∀ d ∈ tables_1, d.before a0 Z = true) : ((Jvm.Cond.fieldLink "com/example/attestry/attestry/bundle/MessageType" (7 : Nat) "com/example/attestry/attestry/bundle/MessageType" "code" "Ljava/lang/String;")).before a0 Z = true := hw _ (List.mem_of_getElem? (i := 39) rfl)
theorem w28 {a0 : Array Value} {Z : State} (hw : ∀ d ∈ tables_1, d.before a0 Z = true) : ((Jvm.Cond.instantiable "com/example/attestry/attestry/bundle/MessageType" (2 : Nat))).before a0 Z = true := hw _ (List.mem_of_getElem? (i := 28) rfl)
theorem w40 {a0 : Array Value} {Z : State} (hw : ∀ d ∈ tables_1, d.before a0 Z = true) : ((Jvm.Cond.laysFinal "com/example/attestry/attestry/bundle/MessageType" "com/example/attestry/attestry/bundle/MessageType" "code" "Ljava/lang/String;")).before a0 Z = true := hw _ (List.mem_of_getElem? (i := 40) rfl)
theorem d5_9 : decode prog_32_method_1_code 9 = .ok (.aload_n 0, 1) := by decide +kernel
theorem d5_10 : decode prog_32_method_1_code 10 = .ok (.aload_n 2, 1) := by decide +kernel
theorem d5_11 : decode prog_32_method_1_code 11 = .ok (.putfield 13, 3) := by decide +kernel
theorem w41 {a0 : Array Value} {Z : State} (hw : ∀ d ∈ tables_1, d.before a0 Z = true) : ((Jvm.Cond.fieldLink "com/example/attestry/attestry/bundle/MessageType" (13 : Nat) "com/example/attestry/attestry/bundle/MessageType" "triggerEvent" "Ljava/lang/String;")).before a0 Z = true := hw _ (List.mem_of_getElem? (i := 41) rfl)
theorem w42 {a0 : Array Value} {Z : State} (hw : ∀ d ∈ tables_1, d.before a0 Z = true) : ((Jvm.Cond.laysFinal "com/example/attestry/attestry/bundle/MessageType" "com/example/attestry/attestry/bundle/MessageType" "triggerEvent" "Ljava/lang/String;")).before a0 Z = true := hw _ (List.mem_of_getElem? (i := 42) rfl)
theorem d5_14 : decode prog_32_method_1_code 14 = .ok (.return_, 1) := by decide +kernel
def rr_mtInit : Room := { frames := 2, cells := 0, slots := 0, locals := 24 }
theorem pn2 : plainName "com/example/attestry/attestry/bundle/MessageType" = true := by first | (simp [plainName, overriddenIn]; done) | decide +kernel
set_option maxRecDepth 65536 in
set_option maxHeartbeats 40000000 in
theorem rm_mtInit (l : Launch) (Z : State) (a0 : Array Value) (hw : ∀ d ∈ tables_1, d.before a0 Z = true) (ws : List Jvm.Cond) (a1 : Addr) (u w : Addr) (h0 : Heap) (n0 : Nat) (Z0 : n0 ≤ h0.size) (E0 : Exa Z h0 a1 "com/example/attestry/attestry/bundle/MessageType") (g0 : n0 ≤ a1) (F0_0 : Fld Z h0 a1 "com/example/attestry/attestry/bundle/MessageType" "code" "Ljava/lang/String;" .null) (F0_1 : Fld Z h0 a1 "com/example/attestry/attestry/bundle/MessageType" "triggerEvent" "Ljava/lang/String;" .null) :
    Con l Z (⟨"com/example/attestry/attestry/bundle/MessageType", "<init>", "(Ljava/lang/String;Ljava/lang/String;)V"⟩ : MethodName) prog_32_method_1_code 3 none ws rr_mtInit #[(.ref a1), (.ref u), (.ref w)] h0 (fun v h L => v = none ∧ Fr n0 L ∧ Keep h0 h [a1] ∧ Fld Z h a1 "com/example/attestry/attestry/bundle/MessageType" "code" "Ljava/lang/String;" (.ref u) ∧ Fld Z h a1 "com/example/attestry/attestry/bundle/MessageType" "triggerEvent" "Ljava/lang/String;" (.ref w)) := by
  refine Con.enter (plainFor_of_name pn2) ?_
  intro p e s m below meth c s₁ X0 hx hZ hby hml hret hlk hown hnm e0
  have N0 := Fr.nil n0
  refine Go.cast (g' := (mkF m 0 #[.val (.ref a1), .val (.ref u), .val (.ref w)] [])) (by first | rfl | (simp [entryFrame, mkF, argsToLocals, Value.category]; done)) ?_
  refine Go.st (T' := s₁) (g' := (mkF m 1 #[.val (.ref a1), .val (.ref u), .val (.ref w)] [(.ref a1)])) (fun _ zk => XS.aloadN X0.here hx rfl (hb hby d5_0) rfl rfl zk) ?_
  refine Go.callSp (y := (⟨"java/lang/Record", "<init>", "()V"⟩ : MethodName)) (a := a1) X0 hx hZ hown e0 rfl (w33 hw) (w34 hw) (w36 hw) (w37 hw) (by decide) (argsL := []) (rest := []) (W := 0) (rm_recInit l Z a0 hw [] a1 h0 n0 Z0 ) rfl (lenOf pd1 rfl) rfl (by rw [hml]; rfl) rfl (by show 2 * 0 + _ ≤ _; exact Nat.le_of_eq rfl) (by decide) (by decide) (by decide) (by decide) (hb hby d5_1) ?_
  intro v1 T1 h1 L1 X1 e1 q1
  obtain ⟨hv1, Nf1, hh1⟩ := q1
  subst hv1
  have E1 : T1.heap = h0 := e1.trans hh1
  have N1 := Fr.app N0 Nf1
  show Go p.tables e below _ T1 (mkF m 4 #[.val (.ref a1), .val (.ref u), .val (.ref w)] [])
  refine Go.st (T' := T1) (g' := (mkF m 5 #[.val (.ref a1), .val (.ref u), .val (.ref w)] [(.ref a1)])) (fun _ zk => XS.aloadN X1.here hx rfl (hb hby d5_4) rfl rfl zk) ?_
  refine Go.st (T' := T1) (g' := (mkF m 6 #[.val (.ref a1), .val (.ref u), .val (.ref w)] [(.ref u), (.ref a1)])) (fun _ zk => XS.aloadN X1.here hx rfl (hb hby d5_5) rfl rfl zk) ?_
  obtain ⟨T2, h2, X2, e2, W2, st2⟩ := putF X1 hx hZ hown (host := "") (Or.inl (w39 hw)) Via.refl E1 F0_0 E0 (Or.inr ⟨(w40 hw), rfl, hnm⟩) (w28 hw) (ty := (.object "java/lang/String")) (by decide) rfl rfl (g := (mkF m 6 #[.val (.ref a1), .val (.ref u), .val (.ref w)] [(.ref u), (.ref a1)])) rfl rfl (hb hby d5_6)
  have F2 := F0_0.same W2
  have N2 := Fr.snoc X2 N1 g0
  refine Go.st (T' := T2) (g' := (mkF m 9 #[.val (.ref a1), .val (.ref u), .val (.ref w)] [])) (fun _ zk => st2 _ zk) ?_
  refine Go.st (T' := T2) (g' := (mkF m 10 #[.val (.ref a1), .val (.ref u), .val (.ref w)] [(.ref a1)])) (fun _ zk => XS.aloadN X2.here hx rfl (hb hby d5_9) rfl rfl zk) ?_
  refine Go.st (T' := T2) (g' := (mkF m 11 #[.val (.ref a1), .val (.ref u), .val (.ref w)] [(.ref w), (.ref a1)])) (fun _ zk => XS.aloadN X2.here hx rfl (hb hby d5_10) rfl rfl zk) ?_
  have f4 := (F0_1.other W2 (Or.inr (slot_ne (Or.inr (w42 hw)) (Or.inr (w40 hw)) (by decide) (t := (.object "java/lang/String")) (t' := (.object "java/lang/String")) (by decide) (by decide))))
  have f5 := (E0.wr W2)
  obtain ⟨T3, h3, X3, e3, W3, st3⟩ := putF X2 hx hZ hown (host := "") (Or.inl (w41 hw)) Via.refl e2 f4 f5 (Or.inr ⟨(w42 hw), rfl, hnm⟩) (w28 hw) (ty := (.object "java/lang/String")) (by decide) rfl rfl (g := (mkF m 11 #[.val (.ref a1), .val (.ref u), .val (.ref w)] [(.ref w), (.ref a1)])) rfl rfl (hb hby d5_11)
  have F3 := f4.same W3
  have N3 := Fr.snoc X3 N2 g0
  refine Go.st (T' := T3) (g' := (mkF m 14 #[.val (.ref a1), .val (.ref u), .val (.ref w)] [])) (fun _ zk => st3 _ zk) ?_
  have f6 := (F2.other W3 (Or.inr (slot_ne (Or.inr (w40 hw)) (Or.inr (w42 hw)) (by decide) (t := (.object "java/lang/String")) (t' := (.object "java/lang/String")) (by decide) (by decide))))
  refine Go.retV X3 hx hlk hret (hb hby d5_14) (by decide) (by decide) e3 ?_
  exact ⟨rfl, N3, (((Keep.refl h0 [a1]).wr W2 (Or.inl (List.mem_of_getElem? (i := 0) rfl))).wr W3 (Or.inl (List.mem_of_getElem? (i := 0) rfl))), f6, F3⟩
theorem d8_0 : decode jdk_42_method_55_code 0 = .ok (.aload_n 0, 1) := by decide +kernel
theorem d8_1 : decode jdk_42_method_55_code 1 = .ok (.getfield 9, 3) := by decide +kernel
theorem w25 {a0 : Array Value} {Z : State} (hw : ∀ d ∈ tables_1, d.before a0 Z = true) : ((Jvm.Cond.fieldLink "java/lang/String" (9 : Nat) "java/lang/String" "value" "[B")).before a0 Z = true := hw _ (List.mem_of_getElem? (i := 25) rfl)
theorem d8_4 : decode jdk_42_method_55_code 4 = .ok (.arraylength, 1) := by decide +kernel
theorem d8_5 : decode jdk_42_method_55_code 5 = .ok (.ifCond .ne 7, 3) := by decide +kernel
theorem d8_8 : decode jdk_42_method_55_code 8 = .ok (.iconst 1, 1) := by decide +kernel
theorem d8_9 : decode jdk_42_method_55_code 9 = .ok (.goto 4, 3) := by decide +kernel
theorem d8_13 : decode jdk_42_method_55_code 13 = .ok (.ireturn, 1) := by decide +kernel
def rr_emp_0 : Room := { frames := 0, cells := 0, slots := 0, locals := 0 }
theorem pn3 : plainName "java/lang/String" = true := by first | (simp [plainName, overriddenIn]; done) | decide +kernel
set_option maxRecDepth 65536 in
set_option maxHeartbeats 40000000 in
theorem rm_emp_0 (l : Launch) (Z : State) (a0 : Array Value) (hw : ∀ d ∈ tables_1, d.before a0 Z = true) (ws : List Jvm.Cond) (a1 t : Addr) (k : ClassId) (h0 : Heap) (n0 : Nat) (Z0 : n0 ≤ h0.size) (F0 : Fld Z h0 a1 "java/lang/String" "value" "[B" (.ref t)) (V0 : Arv Z h0 t k .byte (0 : Int32) [] (.int (0 : Int32))) :
    Con l Z (⟨"java/lang/String", "isEmpty", "()Z"⟩ : MethodName) jdk_42_method_55_code 1 (some .boolean) ws rr_emp_0 #[(.ref a1)] h0 (fun v h L => v = some (.int 1) ∧ Fr n0 L ∧ h = h0) := by
  refine Con.enter (plainFor_of_name pn3) ?_
  intro p e s m below meth c s₁ X0 hx hZ hby hml hret hlk hown hnm e0
  have N0 := Fr.nil n0
  refine Go.cast (g' := (mkF m 0 #[.val (.ref a1)] [])) (by first | rfl | (simp [entryFrame, mkF, argsToLocals, Value.category]; done)) ?_
  refine Go.st (T' := s₁) (g' := (mkF m 1 #[.val (.ref a1)] [(.ref a1)])) (fun _ zk => XS.aloadN X0.here hx rfl (hb hby d8_0) rfl rfl zk) ?_
  obtain ⟨T1, X1, e1, st1⟩ := getF X0 hx hZ hown (host := "") (Or.inl (w25 hw)) Via.refl e0 F0 (g := (mkF m 1 #[.val (.ref a1)] [(.ref a1)])) rfl rfl (hb hby d8_1)
  refine Go.st (T' := T1) (g' := (mkF m 4 #[.val (.ref a1)] [(.ref t)])) (fun _ zk => st1 _ zk) ?_
  refine Go.st (T' := T1) (g' := (mkF m 5 #[.val (.ref a1)] [(.int (0 : Int32))])) (fun _ zk => lenV X1 hx hZ e1 V0 (g := (mkF m 4 #[.val (.ref a1)] [(.ref t)])) rfl (rest := []) rfl (hb hby d8_4) zk) ?_
  refine Go.st (T' := T1) (g' := (mkF m 8 #[.val (.ref a1)] [])) (fun _ zk => XS.ifNo X1.here hx rfl (hb hby d8_5) rfl ((if0 _ _).trans (teq (rfl : (0 : Int32) = (0 : Int32))).2) zk) ?_
  refine Go.st (T' := T1) (g' := (mkF m 9 #[.val (.ref a1)] [(.int (1 : Int32))])) (fun _ zk => XS.iconst X1.here hx rfl (hb hby d8_8) zk) ?_
  refine Go.st (T' := T1) (g' := (mkF m 13 #[.val (.ref a1)] [(.int (1 : Int32))])) (fun _ zk => XS.goto X1.here hx rfl (pc0 := 9) (pc' := 13) rfl (hb hby d8_9) (by decide) (by decide) zk) ?_
  refine Go.retN X1 hx hlk hret rfl (by simp) (hb hby d8_13) (by decide) (by decide) e1 ?_
  exact ⟨rfl, N0, rfl⟩
theorem d8_12 : decode jdk_42_method_55_code 12 = .ok (.iconst 0, 1) := by decide +kernel
def rr_emp_1 : Room := { frames := 0, cells := 0, slots := 0, locals := 0 }
set_option maxRecDepth 65536 in
set_option maxHeartbeats 40000000 in
theorem rm_emp_1 (l : Launch) (Z : State) (a0 : Array Value) (hw : ∀ d ∈ tables_1, d.before a0 Z = true) (ws : List Jvm.Cond) (a1 t : Addr) (k : ClassId) (x0 : Int32) (h0 : Heap) (n0 : Nat) (Z0 : n0 ≤ h0.size) (F0 : Fld Z h0 a1 "java/lang/String" "value" "[B" (.ref t)) (V0 : Arv Z h0 t k .byte (1 : Int32) [(.int x0)] (.int (0 : Int32))) :
    Con l Z (⟨"java/lang/String", "isEmpty", "()Z"⟩ : MethodName) jdk_42_method_55_code 1 (some .boolean) ws rr_emp_1 #[(.ref a1)] h0 (fun v h L => v = some (.int 0) ∧ Fr n0 L ∧ h = h0) := by
  refine Con.enter (plainFor_of_name pn3) ?_
  intro p e s m below meth c s₁ X0 hx hZ hby hml hret hlk hown hnm e0
  have N0 := Fr.nil n0
  refine Go.cast (g' := (mkF m 0 #[.val (.ref a1)] [])) (by first | rfl | (simp [entryFrame, mkF, argsToLocals, Value.category]; done)) ?_
  refine Go.st (T' := s₁) (g' := (mkF m 1 #[.val (.ref a1)] [(.ref a1)])) (fun _ zk => XS.aloadN X0.here hx rfl (hb hby d8_0) rfl rfl zk) ?_
  obtain ⟨T1, X1, e1, st1⟩ := getF X0 hx hZ hown (host := "") (Or.inl (w25 hw)) Via.refl e0 F0 (g := (mkF m 1 #[.val (.ref a1)] [(.ref a1)])) rfl rfl (hb hby d8_1)
  refine Go.st (T' := T1) (g' := (mkF m 4 #[.val (.ref a1)] [(.ref t)])) (fun _ zk => st1 _ zk) ?_
  refine Go.st (T' := T1) (g' := (mkF m 5 #[.val (.ref a1)] [(.int (1 : Int32))])) (fun _ zk => lenV X1 hx hZ e1 V0 (g := (mkF m 4 #[.val (.ref a1)] [(.ref t)])) rfl (rest := []) rfl (hb hby d8_4) zk) ?_
  refine Go.st (T' := T1) (g' := (mkF m 12 #[.val (.ref a1)] [])) (fun _ zk => XS.ifYes X1.here hx rfl (pc0 := 5) (pc' := 12) rfl (hb hby d8_5) rfl ((if0 _ _).trans (feq ((by decide) : ¬ ((1 : Int32) = (0 : Int32)))).2) (by decide) (by decide) zk) ?_
  refine Go.st (T' := T1) (g' := (mkF m 13 #[.val (.ref a1)] [(.int (0 : Int32))])) (fun _ zk => XS.iconst X1.here hx rfl (hb hby d8_12) zk) ?_
  refine Go.retN X1 hx hlk hret rfl (by simp) (hb hby d8_13) (by decide) (by decide) e1 ?_
  exact ⟨rfl, N0, rfl⟩
def rr_emp_2 : Room := { frames := 0, cells := 0, slots := 0, locals := 0 }
set_option maxRecDepth 65536 in
set_option maxHeartbeats 40000000 in
theorem rm_emp_2 (l : Launch) (Z : State) (a0 : Array Value) (hw : ∀ d ∈ tables_1, d.before a0 Z = true) (ws : List Jvm.Cond) (a1 t : Addr) (k : ClassId) (x0 x1 : Int32) (h0 : Heap) (n0 : Nat) (Z0 : n0 ≤ h0.size) (F0 : Fld Z h0 a1 "java/lang/String" "value" "[B" (.ref t)) (V0 : Arv Z h0 t k .byte (2 : Int32) [(.int x0), (.int x1)] (.int (0 : Int32))) :
    Con l Z (⟨"java/lang/String", "isEmpty", "()Z"⟩ : MethodName) jdk_42_method_55_code 1 (some .boolean) ws rr_emp_2 #[(.ref a1)] h0 (fun v h L => v = some (.int 0) ∧ Fr n0 L ∧ h = h0) := by
  refine Con.enter (plainFor_of_name pn3) ?_
  intro p e s m below meth c s₁ X0 hx hZ hby hml hret hlk hown hnm e0
  have N0 := Fr.nil n0
  refine Go.cast (g' := (mkF m 0 #[.val (.ref a1)] [])) (by first | rfl | (simp [entryFrame, mkF, argsToLocals, Value.category]; done)) ?_
  refine Go.st (T' := s₁) (g' := (mkF m 1 #[.val (.ref a1)] [(.ref a1)])) (fun _ zk => XS.aloadN X0.here hx rfl (hb hby d8_0) rfl rfl zk) ?_
  obtain ⟨T1, X1, e1, st1⟩ := getF X0 hx hZ hown (host := "") (Or.inl (w25 hw)) Via.refl e0 F0 (g := (mkF m 1 #[.val (.ref a1)] [(.ref a1)])) rfl rfl (hb hby d8_1)
  refine Go.st (T' := T1) (g' := (mkF m 4 #[.val (.ref a1)] [(.ref t)])) (fun _ zk => st1 _ zk) ?_
  refine Go.st (T' := T1) (g' := (mkF m 5 #[.val (.ref a1)] [(.int (2 : Int32))])) (fun _ zk => lenV X1 hx hZ e1 V0 (g := (mkF m 4 #[.val (.ref a1)] [(.ref t)])) rfl (rest := []) rfl (hb hby d8_4) zk) ?_
  refine Go.st (T' := T1) (g' := (mkF m 12 #[.val (.ref a1)] [])) (fun _ zk => XS.ifYes X1.here hx rfl (pc0 := 5) (pc' := 12) rfl (hb hby d8_5) rfl ((if0 _ _).trans (feq ((by decide) : ¬ ((2 : Int32) = (0 : Int32)))).2) (by decide) (by decide) zk) ?_
  refine Go.st (T' := T1) (g' := (mkF m 13 #[.val (.ref a1)] [(.int (0 : Int32))])) (fun _ zk => XS.iconst X1.here hx rfl (hb hby d8_12) zk) ?_
  refine Go.retN X1 hx hlk hret rfl (by simp) (hb hby d8_13) (by decide) (by decide) e1 ?_
  exact ⟨rfl, N0, rfl⟩
theorem d7_0 : decode prog_32_method_3_code 0 = .ok (.aload_n 0, 1) := by decide +kernel
theorem d7_1 : decode prog_32_method_3_code 1 = .ok (.getfield 7, 3) := by decide +kernel
theorem w52 {a0 : Array Value} {Z : State} (hw : ∀ d ∈ tables_1, d.before a0 Z = true) : ((Jvm.Cond.code ({ cls := "java/lang/String", name := "isEmpty", desc := "()Z" } : Jvm.MethodName) jdk_42_method_55_code (1 : Nat) (Option.some Jvm.ClassFile.FieldType.boolean))).before a0 Z = true := hw _ (List.mem_of_getElem? (i := 52) rfl)
theorem w7 {a0 : Array Value} {Z : State} (hw : ∀ d ∈ tables_1, d.before a0 Z = true) : ((Jvm.Cond.initialized "java/lang/String")).before a0 Z = true := hw _ (List.mem_of_getElem? (i := 7) rfl)
theorem pd4 : parseMethodDescriptor "()Z" = some ⟨[], some .boolean⟩ := by decide +kernel
theorem d7_4 : decode prog_32_method_3_code 4 = .ok (.invokevirtual 29, 3) := by decide +kernel
theorem w51 {a0 : Array Value} {Z : State} (hw : ∀ d ∈ tables_1, d.before a0 Z = true) : ((Jvm.Cond.selects "java/lang/String" ({ cls := "java/lang/String", name := "isEmpty", desc := "()Z" } : Jvm.MethodName) ({ cls := "java/lang/String", name := "isEmpty", desc := "()Z" } : Jvm.MethodName))).before a0 Z = true := hw _ (List.mem_of_getElem? (i := 51) rfl)
theorem w50 {a0 : Array Value} {Z : State} (hw : ∀ d ∈ tables_1, d.before a0 Z = true) : ((Jvm.Cond.instanceMethod ({ cls := "java/lang/String", name := "isEmpty", desc := "()Z" } : Jvm.MethodName))).before a0 Z = true := hw _ (List.mem_of_getElem? (i := 50) rfl)
theorem w48 {a0 : Array Value} {Z : State} (hw : ∀ d ∈ tables_1, d.before a0 Z = true) : ((Jvm.Cond.methodLink "com/example/attestry/attestry/bundle/MessageType" (29 : Nat) ({ cls := "java/lang/String", name := "isEmpty", desc := "()Z" } : Jvm.MethodName))).before a0 Z = true := hw _ (List.mem_of_getElem? (i := 48) rfl)
theorem w49 {a0 : Array Value} {Z : State} (hw : ∀ d ∈ tables_1, d.before a0 Z = true) : ((Jvm.Cond.declares ({ cls := "java/lang/String", name := "isEmpty", desc := "()Z" } : Jvm.MethodName))).before a0 Z = true := hw _ (List.mem_of_getElem? (i := 49) rfl)
theorem d7_7 : decode prog_32_method_3_code 7 = .ok (.ifCond .eq 17, 3) := by decide +kernel
theorem d7_10 : decode prog_32_method_3_code 10 = .ok (.aload_n 0, 1) := by decide +kernel
theorem d7_11 : decode prog_32_method_3_code 11 = .ok (.getfield 13, 3) := by decide +kernel
theorem d7_14 : decode prog_32_method_3_code 14 = .ok (.invokevirtual 29, 3) := by decide +kernel
theorem d7_17 : decode prog_32_method_3_code 17 = .ok (.ifCond .eq 7, 3) := by decide +kernel
theorem d7_20 : decode prog_32_method_3_code 20 = .ok (.iconst 1, 1) := by decide +kernel
theorem d7_21 : decode prog_32_method_3_code 21 = .ok (.goto 4, 3) := by decide +kernel
theorem d7_25 : decode prog_32_method_3_code 25 = .ok (.ireturn, 1) := by decide +kernel
def rr_isEmpty_00 : Room := { frames := 1, cells := 0, slots := 0, locals := 12 }
set_option maxRecDepth 65536 in
set_option maxHeartbeats 40000000 in
theorem rm_isEmpty_00 (l : Launch) (Z : State) (a0 : Array Value) (hw : ∀ d ∈ tables_1, d.before a0 Z = true) (ws : List Jvm.Cond) (a1 : Addr) (u t_u : Addr) (k_u : ClassId) (w t_w : Addr) (k_w : ClassId) (h0 : Heap) (n0 : Nat) (Z0 : n0 ≤ h0.size) (E_u : Exa Z h0 u "java/lang/String") (F_u : Fld Z h0 u "java/lang/String" "value" "[B" (.ref t_u)) (V_u : Arv Z h0 t_u k_u .byte (0 : Int32) [] (.int (0 : Int32))) (E_w : Exa Z h0 w "java/lang/String") (F_w : Fld Z h0 w "java/lang/String" "value" "[B" (.ref t_w)) (V_w : Arv Z h0 t_w k_w .byte (0 : Int32) [] (.int (0 : Int32))) (G1 : Fld Z h0 a1 "com/example/attestry/attestry/bundle/MessageType" "code" "Ljava/lang/String;" (.ref u)) (G2 : Fld Z h0 a1 "com/example/attestry/attestry/bundle/MessageType" "triggerEvent" "Ljava/lang/String;" (.ref w)) :
    Con l Z (⟨"com/example/attestry/attestry/bundle/MessageType", "isEmpty", "()Z"⟩ : MethodName) prog_32_method_3_code 1 (some .boolean) ws rr_isEmpty_00 #[(.ref a1)] h0 (fun v h L => v = some (.int 1) ∧ Fr n0 L ∧ h = h0) := by
  refine Con.enter (plainFor_of_name pn2) ?_
  intro p e s m below meth c s₁ X0 hx hZ hby hml hret hlk hown hnm e0
  have N0 := Fr.nil n0
  refine Go.cast (g' := (mkF m 0 #[.val (.ref a1)] [])) (by first | rfl | (simp [entryFrame, mkF, argsToLocals, Value.category]; done)) ?_
  refine Go.st (T' := s₁) (g' := (mkF m 1 #[.val (.ref a1)] [(.ref a1)])) (fun _ zk => XS.aloadN X0.here hx rfl (hb hby d7_0) rfl rfl zk) ?_
  obtain ⟨T1, X1, e1, st1⟩ := getF X0 hx hZ hown (host := "") (Or.inl (w39 hw)) Via.refl e0 G1 (g := (mkF m 1 #[.val (.ref a1)] [(.ref a1)])) rfl rfl (hb hby d7_1)
  refine Go.st (T' := T1) (g' := (mkF m 4 #[.val (.ref a1)] [(.ref u)])) (fun _ zk => st1 _ zk) ?_
  refine Go.callV (y := (⟨"java/lang/String", "isEmpty", "()Z"⟩ : MethodName)) (z := (⟨"java/lang/String", "isEmpty", "()Z"⟩ : MethodName)) (C := "java/lang/String") (a := u) X1 hx hZ hown e1 (w48 hw) (w49 hw) (w51 hw) (w50 hw) (w7 hw) (w52 hw) (notFace_of_selects (args := #[]) (mvT hZ (w51 hw))) (by decide) E_u (argsL := []) (rest := []) (W := 0) (rm_emp_0 l Z a0 hw [] u t_u k_u  h0 n0 Z0 F_u V_u) rfl (lenOf pd4 rfl) rfl (by rw [hml]; rfl) rfl (by show 2 * 0 + _ ≤ _; exact Nat.le_of_eq rfl) (by decide) (by decide) (by decide) (by decide) (hb hby d7_4) ?_
  intro v2 T2 h2 L2 X2 e2 q2
  obtain ⟨hv2, Nf2, hh2⟩ := q2
  subst hv2
  have E2 : T2.heap = h0 := e2.trans hh2
  have N2 := Fr.app N0 Nf2
  show Go p.tables e below _ T2 (mkF m 7 #[.val (.ref a1)] [(.int (1 : Int32))])
  refine Go.st (T' := T2) (g' := (mkF m 10 #[.val (.ref a1)] [])) (fun _ zk => XS.ifNo X2.here hx rfl (hb hby d7_7) rfl ((if0 _ _).trans (feq ((by decide) : ¬ ((1 : Int32) = (0 : Int32)))).1) zk) ?_
  refine Go.st (T' := T2) (g' := (mkF m 11 #[.val (.ref a1)] [(.ref a1)])) (fun _ zk => XS.aloadN X2.here hx rfl (hb hby d7_10) rfl rfl zk) ?_
  obtain ⟨T3, X3, e3, st3⟩ := getF X2 hx hZ hown (host := "") (Or.inl (w41 hw)) Via.refl E2 G2 (g := (mkF m 11 #[.val (.ref a1)] [(.ref a1)])) rfl rfl (hb hby d7_11)
  refine Go.st (T' := T3) (g' := (mkF m 14 #[.val (.ref a1)] [(.ref w)])) (fun _ zk => st3 _ zk) ?_
  refine Go.callV (y := (⟨"java/lang/String", "isEmpty", "()Z"⟩ : MethodName)) (z := (⟨"java/lang/String", "isEmpty", "()Z"⟩ : MethodName)) (C := "java/lang/String") (a := w) X3 hx hZ hown e3 (w48 hw) (w49 hw) (w51 hw) (w50 hw) (w7 hw) (w52 hw) (notFace_of_selects (args := #[]) (mvT hZ (w51 hw))) (by decide) E_w (argsL := []) (rest := []) (W := 0) (rm_emp_0 l Z a0 hw [] w t_w k_w  h0 n0 Z0 F_w V_w) rfl (lenOf pd4 rfl) rfl (by rw [hml]; rfl) rfl (by show 2 * 0 + _ ≤ _; exact Nat.le_of_eq rfl) (by decide) (by decide) (by decide) (by decide) (hb hby d7_14) ?_
  intro v4 T4 h4 L4 X4 e4 q4
  obtain ⟨hv4, Nf4, hh4⟩ := q4
  subst hv4
  have E4 : T4.heap = h0 := e4.trans hh4
  have N4 := Fr.app N2 Nf4
  show Go p.tables e below _ T4 (mkF m 17 #[.val (.ref a1)] [(.int (1 : Int32))])
  refine Go.st (T' := T4) (g' := (mkF m 20 #[.val (.ref a1)] [])) (fun _ zk => XS.ifNo X4.here hx rfl (hb hby d7_17) rfl ((if0 _ _).trans (feq ((by decide) : ¬ ((1 : Int32) = (0 : Int32)))).1) zk) ?_
  refine Go.st (T' := T4) (g' := (mkF m 21 #[.val (.ref a1)] [(.int (1 : Int32))])) (fun _ zk => XS.iconst X4.here hx rfl (hb hby d7_20) zk) ?_
  refine Go.st (T' := T4) (g' := (mkF m 25 #[.val (.ref a1)] [(.int (1 : Int32))])) (fun _ zk => XS.goto X4.here hx rfl (pc0 := 21) (pc' := 25) rfl (hb hby d7_21) (by decide) (by decide) zk) ?_
  refine Go.retN X4 hx hlk hret rfl (by simp) (hb hby d7_25) (by decide) (by decide) E4 ?_
  exact ⟨rfl, N4, rfl⟩
theorem d7_24 : decode prog_32_method_3_code 24 = .ok (.iconst 0, 1) := by decide +kernel
def rr_isEmpty_01 : Room := { frames := 1, cells := 0, slots := 0, locals := 12 }
set_option maxRecDepth 65536 in
set_option maxHeartbeats 40000000 in
theorem rm_isEmpty_01 (l : Launch) (Z : State) (a0 : Array Value) (hw : ∀ d ∈ tables_1, d.before a0 Z = true) (ws : List Jvm.Cond) (a1 : Addr) (u t_u : Addr) (k_u : ClassId) (w t_w : Addr) (k_w : ClassId) (w_0 : Int32) (h0 : Heap) (n0 : Nat) (Z0 : n0 ≤ h0.size) (E_u : Exa Z h0 u "java/lang/String") (F_u : Fld Z h0 u "java/lang/String" "value" "[B" (.ref t_u)) (V_u : Arv Z h0 t_u k_u .byte (0 : Int32) [] (.int (0 : Int32))) (E_w : Exa Z h0 w "java/lang/String") (F_w : Fld Z h0 w "java/lang/String" "value" "[B" (.ref t_w)) (V_w : Arv Z h0 t_w k_w .byte (1 : Int32) [(.int w_0)] (.int (0 : Int32))) (G1 : Fld Z h0 a1 "com/example/attestry/attestry/bundle/MessageType" "code" "Ljava/lang/String;" (.ref u)) (G2 : Fld Z h0 a1 "com/example/attestry/attestry/bundle/MessageType" "triggerEvent" "Ljava/lang/String;" (.ref w)) :
    Con l Z (⟨"com/example/attestry/attestry/bundle/MessageType", "isEmpty", "()Z"⟩ : MethodName) prog_32_method_3_code 1 (some .boolean) ws rr_isEmpty_01 #[(.ref a1)] h0 (fun v h L => v = some (.int 0) ∧ Fr n0 L ∧ h = h0) := by
  refine Con.enter (plainFor_of_name pn2) ?_
  intro p e s m below meth c s₁ X0 hx hZ hby hml hret hlk hown hnm e0
  have N0 := Fr.nil n0
  refine Go.cast (g' := (mkF m 0 #[.val (.ref a1)] [])) (by first | rfl | (simp [entryFrame, mkF, argsToLocals, Value.category]; done)) ?_
  refine Go.st (T' := s₁) (g' := (mkF m 1 #[.val (.ref a1)] [(.ref a1)])) (fun _ zk => XS.aloadN X0.here hx rfl (hb hby d7_0) rfl rfl zk) ?_
  obtain ⟨T1, X1, e1, st1⟩ := getF X0 hx hZ hown (host := "") (Or.inl (w39 hw)) Via.refl e0 G1 (g := (mkF m 1 #[.val (.ref a1)] [(.ref a1)])) rfl rfl (hb hby d7_1)
  refine Go.st (T' := T1) (g' := (mkF m 4 #[.val (.ref a1)] [(.ref u)])) (fun _ zk => st1 _ zk) ?_
  refine Go.callV (y := (⟨"java/lang/String", "isEmpty", "()Z"⟩ : MethodName)) (z := (⟨"java/lang/String", "isEmpty", "()Z"⟩ : MethodName)) (C := "java/lang/String") (a := u) X1 hx hZ hown e1 (w48 hw) (w49 hw) (w51 hw) (w50 hw) (w7 hw) (w52 hw) (notFace_of_selects (args := #[]) (mvT hZ (w51 hw))) (by decide) E_u (argsL := []) (rest := []) (W := 0) (rm_emp_0 l Z a0 hw [] u t_u k_u  h0 n0 Z0 F_u V_u) rfl (lenOf pd4 rfl) rfl (by rw [hml]; rfl) rfl (by show 2 * 0 + _ ≤ _; exact Nat.le_of_eq rfl) (by decide) (by decide) (by decide) (by decide) (hb hby d7_4) ?_
  intro v2 T2 h2 L2 X2 e2 q2
  obtain ⟨hv2, Nf2, hh2⟩ := q2
  subst hv2
  have E2 : T2.heap = h0 := e2.trans hh2
  have N2 := Fr.app N0 Nf2
  show Go p.tables e below _ T2 (mkF m 7 #[.val (.ref a1)] [(.int (1 : Int32))])
  refine Go.st (T' := T2) (g' := (mkF m 10 #[.val (.ref a1)] [])) (fun _ zk => XS.ifNo X2.here hx rfl (hb hby d7_7) rfl ((if0 _ _).trans (feq ((by decide) : ¬ ((1 : Int32) = (0 : Int32)))).1) zk) ?_
  refine Go.st (T' := T2) (g' := (mkF m 11 #[.val (.ref a1)] [(.ref a1)])) (fun _ zk => XS.aloadN X2.here hx rfl (hb hby d7_10) rfl rfl zk) ?_
  obtain ⟨T3, X3, e3, st3⟩ := getF X2 hx hZ hown (host := "") (Or.inl (w41 hw)) Via.refl E2 G2 (g := (mkF m 11 #[.val (.ref a1)] [(.ref a1)])) rfl rfl (hb hby d7_11)
  refine Go.st (T' := T3) (g' := (mkF m 14 #[.val (.ref a1)] [(.ref w)])) (fun _ zk => st3 _ zk) ?_
  refine Go.callV (y := (⟨"java/lang/String", "isEmpty", "()Z"⟩ : MethodName)) (z := (⟨"java/lang/String", "isEmpty", "()Z"⟩ : MethodName)) (C := "java/lang/String") (a := w) X3 hx hZ hown e3 (w48 hw) (w49 hw) (w51 hw) (w50 hw) (w7 hw) (w52 hw) (notFace_of_selects (args := #[]) (mvT hZ (w51 hw))) (by decide) E_w (argsL := []) (rest := []) (W := 0) (rm_emp_1 l Z a0 hw [] w t_w k_w w_0 h0 n0 Z0 F_w V_w) rfl (lenOf pd4 rfl) rfl (by rw [hml]; rfl) rfl (by show 2 * 0 + _ ≤ _; exact Nat.le_of_eq rfl) (by decide) (by decide) (by decide) (by decide) (hb hby d7_14) ?_
  intro v4 T4 h4 L4 X4 e4 q4
  obtain ⟨hv4, Nf4, hh4⟩ := q4
  subst hv4
  have E4 : T4.heap = h0 := e4.trans hh4
  have N4 := Fr.app N2 Nf4
  show Go p.tables e below _ T4 (mkF m 17 #[.val (.ref a1)] [(.int (0 : Int32))])
  refine Go.st (T' := T4) (g' := (mkF m 24 #[.val (.ref a1)] [])) (fun _ zk => XS.ifYes X4.here hx rfl (pc0 := 17) (pc' := 24) rfl (hb hby d7_17) rfl ((if0 _ _).trans (teq (rfl : (0 : Int32) = (0 : Int32))).1) (by decide) (by decide) zk) ?_
  refine Go.st (T' := T4) (g' := (mkF m 25 #[.val (.ref a1)] [(.int (0 : Int32))])) (fun _ zk => XS.iconst X4.here hx rfl (hb hby d7_24) zk) ?_
  refine Go.retN X4 hx hlk hret rfl (by simp) (hb hby d7_25) (by decide) (by decide) E4 ?_
  exact ⟨rfl, N4, rfl⟩
def rr_isEmpty_02 : Room := { frames := 1, cells := 0, slots := 0, locals := 12 }
set_option maxRecDepth 65536 in
set_option maxHeartbeats 40000000 in
theorem rm_isEmpty_02 (l : Launch) (Z : State) (a0 : Array Value) (hw : ∀ d ∈ tables_1, d.before a0 Z = true) (ws : List Jvm.Cond) (a1 : Addr) (u t_u : Addr) (k_u : ClassId) (w t_w : Addr) (k_w : ClassId) (w_0 w_1 : Int32) (h0 : Heap) (n0 : Nat) (Z0 : n0 ≤ h0.size) (E_u : Exa Z h0 u "java/lang/String") (F_u : Fld Z h0 u "java/lang/String" "value" "[B" (.ref t_u)) (V_u : Arv Z h0 t_u k_u .byte (0 : Int32) [] (.int (0 : Int32))) (E_w : Exa Z h0 w "java/lang/String") (F_w : Fld Z h0 w "java/lang/String" "value" "[B" (.ref t_w)) (V_w : Arv Z h0 t_w k_w .byte (2 : Int32) [(.int w_0), (.int w_1)] (.int (0 : Int32))) (G1 : Fld Z h0 a1 "com/example/attestry/attestry/bundle/MessageType" "code" "Ljava/lang/String;" (.ref u)) (G2 : Fld Z h0 a1 "com/example/attestry/attestry/bundle/MessageType" "triggerEvent" "Ljava/lang/String;" (.ref w)) :
    Con l Z (⟨"com/example/attestry/attestry/bundle/MessageType", "isEmpty", "()Z"⟩ : MethodName) prog_32_method_3_code 1 (some .boolean) ws rr_isEmpty_02 #[(.ref a1)] h0 (fun v h L => v = some (.int 0) ∧ Fr n0 L ∧ h = h0) := by
  refine Con.enter (plainFor_of_name pn2) ?_
  intro p e s m below meth c s₁ X0 hx hZ hby hml hret hlk hown hnm e0
  have N0 := Fr.nil n0
  refine Go.cast (g' := (mkF m 0 #[.val (.ref a1)] [])) (by first | rfl | (simp [entryFrame, mkF, argsToLocals, Value.category]; done)) ?_
  refine Go.st (T' := s₁) (g' := (mkF m 1 #[.val (.ref a1)] [(.ref a1)])) (fun _ zk => XS.aloadN X0.here hx rfl (hb hby d7_0) rfl rfl zk) ?_
  obtain ⟨T1, X1, e1, st1⟩ := getF X0 hx hZ hown (host := "") (Or.inl (w39 hw)) Via.refl e0 G1 (g := (mkF m 1 #[.val (.ref a1)] [(.ref a1)])) rfl rfl (hb hby d7_1)
  refine Go.st (T' := T1) (g' := (mkF m 4 #[.val (.ref a1)] [(.ref u)])) (fun _ zk => st1 _ zk) ?_
  refine Go.callV (y := (⟨"java/lang/String", "isEmpty", "()Z"⟩ : MethodName)) (z := (⟨"java/lang/String", "isEmpty", "()Z"⟩ : MethodName)) (C := "java/lang/String") (a := u) X1 hx hZ hown e1 (w48 hw) (w49 hw) (w51 hw) (w50 hw) (w7 hw) (w52 hw) (notFace_of_selects (args := #[]) (mvT hZ (w51 hw))) (by decide) E_u (argsL := []) (rest := []) (W := 0) (rm_emp_0 l Z a0 hw [] u t_u k_u  h0 n0 Z0 F_u V_u) rfl (lenOf pd4 rfl) rfl (by rw [hml]; rfl) rfl (by show 2 * 0 + _ ≤ _; exact Nat.le_of_eq rfl) (by decide) (by decide) (by decide) (by decide) (hb hby d7_4) ?_
  intro v2 T2 h2 L2 X2 e2 q2
  obtain ⟨hv2, Nf2, hh2⟩ := q2
  subst hv2
  have E2 : T2.heap = h0 := e2.trans hh2
  have N2 := Fr.app N0 Nf2
  show Go p.tables e below _ T2 (mkF m 7 #[.val (.ref a1)] [(.int (1 : Int32))])
  refine Go.st (T' := T2) (g' := (mkF m 10 #[.val (.ref a1)] [])) (fun _ zk => XS.ifNo X2.here hx rfl (hb hby d7_7) rfl ((if0 _ _).trans (feq ((by decide) : ¬ ((1 : Int32) = (0 : Int32)))).1) zk) ?_
  refine Go.st (T' := T2) (g' := (mkF m 11 #[.val (.ref a1)] [(.ref a1)])) (fun _ zk => XS.aloadN X2.here hx rfl (hb hby d7_10) rfl rfl zk) ?_
  obtain ⟨T3, X3, e3, st3⟩ := getF X2 hx hZ hown (host := "") (Or.inl (w41 hw)) Via.refl E2 G2 (g := (mkF m 11 #[.val (.ref a1)] [(.ref a1)])) rfl rfl (hb hby d7_11)
  refine Go.st (T' := T3) (g' := (mkF m 14 #[.val (.ref a1)] [(.ref w)])) (fun _ zk => st3 _ zk) ?_
  refine Go.callV (y := (⟨"java/lang/String", "isEmpty", "()Z"⟩ : MethodName)) (z := (⟨"java/lang/String", "isEmpty", "()Z"⟩ : MethodName)) (C := "java/lang/String") (a := w) X3 hx hZ hown e3 (w48 hw) (w49 hw) (w51 hw) (w50 hw) (w7 hw) (w52 hw) (notFace_of_selects (args := #[]) (mvT hZ (w51 hw))) (by decide) E_w (argsL := []) (rest := []) (W := 0) (rm_emp_2 l Z a0 hw [] w t_w k_w w_0 w_1 h0 n0 Z0 F_w V_w) rfl (lenOf pd4 rfl) rfl (by rw [hml]; rfl) rfl (by show 2 * 0 + _ ≤ _; exact Nat.le_of_eq rfl) (by decide) (by decide) (by decide) (by decide) (hb hby d7_14) ?_
  intro v4 T4 h4 L4 X4 e4 q4
  obtain ⟨hv4, Nf4, hh4⟩ := q4
  subst hv4
  have E4 : T4.heap = h0 := e4.trans hh4
  have N4 := Fr.app N2 Nf4
  show Go p.tables e below _ T4 (mkF m 17 #[.val (.ref a1)] [(.int (0 : Int32))])
  refine Go.st (T' := T4) (g' := (mkF m 24 #[.val (.ref a1)] [])) (fun _ zk => XS.ifYes X4.here hx rfl (pc0 := 17) (pc' := 24) rfl (hb hby d7_17) rfl ((if0 _ _).trans (teq (rfl : (0 : Int32) = (0 : Int32))).1) (by decide) (by decide) zk) ?_
  refine Go.st (T' := T4) (g' := (mkF m 25 #[.val (.ref a1)] [(.int (0 : Int32))])) (fun _ zk => XS.iconst X4.here hx rfl (hb hby d7_24) zk) ?_
  refine Go.retN X4 hx hlk hret rfl (by simp) (hb hby d7_25) (by decide) (by decide) E4 ?_
  exact ⟨rfl, N4, rfl⟩
def rr_isEmpty_10 : Room := { frames := 1, cells := 0, slots := 0, locals := 12 }
set_option maxRecDepth 65536 in
set_option maxHeartbeats 40000000 in
theorem rm_isEmpty_10 (l : Launch) (Z : State) (a0 : Array Value) (hw : ∀ d ∈ tables_1, d.before a0 Z = true) (ws : List Jvm.Cond) (a1 : Addr) (u t_u : Addr) (k_u : ClassId) (u_0 : Int32) (w t_w : Addr) (k_w : ClassId) (h0 : Heap) (n0 : Nat) (Z0 : n0 ≤ h0.size) (E_u : Exa Z h0 u "java/lang/String") (F_u : Fld Z h0 u "java/lang/String" "value" "[B" (.ref t_u)) (V_u : Arv Z h0 t_u k_u .byte (1 : Int32) [(.int u_0)] (.int (0 : Int32))) (E_w : Exa Z h0 w "java/lang/String") (F_w : Fld Z h0 w "java/lang/String" "value" "[B" (.ref t_w)) (V_w : Arv Z h0 t_w k_w .byte (0 : Int32) [] (.int (0 : Int32))) (G1 : Fld Z h0 a1 "com/example/attestry/attestry/bundle/MessageType" "code" "Ljava/lang/String;" (.ref u)) (G2 : Fld Z h0 a1 "com/example/attestry/attestry/bundle/MessageType" "triggerEvent" "Ljava/lang/String;" (.ref w)) :
    Con l Z (⟨"com/example/attestry/attestry/bundle/MessageType", "isEmpty", "()Z"⟩ : MethodName) prog_32_method_3_code 1 (some .boolean) ws rr_isEmpty_10 #[(.ref a1)] h0 (fun v h L => v = some (.int 0) ∧ Fr n0 L ∧ h = h0) := by
  refine Con.enter (plainFor_of_name pn2) ?_
  intro p e s m below meth c s₁ X0 hx hZ hby hml hret hlk hown hnm e0
  have N0 := Fr.nil n0
  refine Go.cast (g' := (mkF m 0 #[.val (.ref a1)] [])) (by first | rfl | (simp [entryFrame, mkF, argsToLocals, Value.category]; done)) ?_
  refine Go.st (T' := s₁) (g' := (mkF m 1 #[.val (.ref a1)] [(.ref a1)])) (fun _ zk => XS.aloadN X0.here hx rfl (hb hby d7_0) rfl rfl zk) ?_
  obtain ⟨T1, X1, e1, st1⟩ := getF X0 hx hZ hown (host := "") (Or.inl (w39 hw)) Via.refl e0 G1 (g := (mkF m 1 #[.val (.ref a1)] [(.ref a1)])) rfl rfl (hb hby d7_1)
  refine Go.st (T' := T1) (g' := (mkF m 4 #[.val (.ref a1)] [(.ref u)])) (fun _ zk => st1 _ zk) ?_
  refine Go.callV (y := (⟨"java/lang/String", "isEmpty", "()Z"⟩ : MethodName)) (z := (⟨"java/lang/String", "isEmpty", "()Z"⟩ : MethodName)) (C := "java/lang/String") (a := u) X1 hx hZ hown e1 (w48 hw) (w49 hw) (w51 hw) (w50 hw) (w7 hw) (w52 hw) (notFace_of_selects (args := #[]) (mvT hZ (w51 hw))) (by decide) E_u (argsL := []) (rest := []) (W := 0) (rm_emp_1 l Z a0 hw [] u t_u k_u u_0 h0 n0 Z0 F_u V_u) rfl (lenOf pd4 rfl) rfl (by rw [hml]; rfl) rfl (by show 2 * 0 + _ ≤ _; exact Nat.le_of_eq rfl) (by decide) (by decide) (by decide) (by decide) (hb hby d7_4) ?_
  intro v2 T2 h2 L2 X2 e2 q2
  obtain ⟨hv2, Nf2, hh2⟩ := q2
  subst hv2
  have E2 : T2.heap = h0 := e2.trans hh2
  have N2 := Fr.app N0 Nf2
  show Go p.tables e below _ T2 (mkF m 7 #[.val (.ref a1)] [(.int (0 : Int32))])
  refine Go.st (T' := T2) (g' := (mkF m 24 #[.val (.ref a1)] [])) (fun _ zk => XS.ifYes X2.here hx rfl (pc0 := 7) (pc' := 24) rfl (hb hby d7_7) rfl ((if0 _ _).trans (teq (rfl : (0 : Int32) = (0 : Int32))).1) (by decide) (by decide) zk) ?_
  refine Go.st (T' := T2) (g' := (mkF m 25 #[.val (.ref a1)] [(.int (0 : Int32))])) (fun _ zk => XS.iconst X2.here hx rfl (hb hby d7_24) zk) ?_
  refine Go.retN X2 hx hlk hret rfl (by simp) (hb hby d7_25) (by decide) (by decide) E2 ?_
  exact ⟨rfl, N2, rfl⟩
def rr_isEmpty_11 : Room := { frames := 1, cells := 0, slots := 0, locals := 12 }
set_option maxRecDepth 65536 in
set_option maxHeartbeats 40000000 in
theorem rm_isEmpty_11 (l : Launch) (Z : State) (a0 : Array Value) (hw : ∀ d ∈ tables_1, d.before a0 Z = true) (ws : List Jvm.Cond) (a1 : Addr) (u t_u : Addr) (k_u : ClassId) (u_0 : Int32) (w t_w : Addr) (k_w : ClassId) (w_0 : Int32) (h0 : Heap) (n0 : Nat) (Z0 : n0 ≤ h0.size) (E_u : Exa Z h0 u "java/lang/String") (F_u : Fld Z h0 u "java/lang/String" "value" "[B" (.ref t_u)) (V_u : Arv Z h0 t_u k_u .byte (1 : Int32) [(.int u_0)] (.int (0 : Int32))) (E_w : Exa Z h0 w "java/lang/String") (F_w : Fld Z h0 w "java/lang/String" "value" "[B" (.ref t_w)) (V_w : Arv Z h0 t_w k_w .byte (1 : Int32) [(.int w_0)] (.int (0 : Int32))) (G1 : Fld Z h0 a1 "com/example/attestry/attestry/bundle/MessageType" "code" "Ljava/lang/String;" (.ref u)) (G2 : Fld Z h0 a1 "com/example/attestry/attestry/bundle/MessageType" "triggerEvent" "Ljava/lang/String;" (.ref w)) :
    Con l Z (⟨"com/example/attestry/attestry/bundle/MessageType", "isEmpty", "()Z"⟩ : MethodName) prog_32_method_3_code 1 (some .boolean) ws rr_isEmpty_11 #[(.ref a1)] h0 (fun v h L => v = some (.int 0) ∧ Fr n0 L ∧ h = h0) := by
  refine Con.enter (plainFor_of_name pn2) ?_
  intro p e s m below meth c s₁ X0 hx hZ hby hml hret hlk hown hnm e0
  have N0 := Fr.nil n0
  refine Go.cast (g' := (mkF m 0 #[.val (.ref a1)] [])) (by first | rfl | (simp [entryFrame, mkF, argsToLocals, Value.category]; done)) ?_
  refine Go.st (T' := s₁) (g' := (mkF m 1 #[.val (.ref a1)] [(.ref a1)])) (fun _ zk => XS.aloadN X0.here hx rfl (hb hby d7_0) rfl rfl zk) ?_
  obtain ⟨T1, X1, e1, st1⟩ := getF X0 hx hZ hown (host := "") (Or.inl (w39 hw)) Via.refl e0 G1 (g := (mkF m 1 #[.val (.ref a1)] [(.ref a1)])) rfl rfl (hb hby d7_1)
  refine Go.st (T' := T1) (g' := (mkF m 4 #[.val (.ref a1)] [(.ref u)])) (fun _ zk => st1 _ zk) ?_
  refine Go.callV (y := (⟨"java/lang/String", "isEmpty", "()Z"⟩ : MethodName)) (z := (⟨"java/lang/String", "isEmpty", "()Z"⟩ : MethodName)) (C := "java/lang/String") (a := u) X1 hx hZ hown e1 (w48 hw) (w49 hw) (w51 hw) (w50 hw) (w7 hw) (w52 hw) (notFace_of_selects (args := #[]) (mvT hZ (w51 hw))) (by decide) E_u (argsL := []) (rest := []) (W := 0) (rm_emp_1 l Z a0 hw [] u t_u k_u u_0 h0 n0 Z0 F_u V_u) rfl (lenOf pd4 rfl) rfl (by rw [hml]; rfl) rfl (by show 2 * 0 + _ ≤ _; exact Nat.le_of_eq rfl) (by decide) (by decide) (by decide) (by decide) (hb hby d7_4) ?_
  intro v2 T2 h2 L2 X2 e2 q2
  obtain ⟨hv2, Nf2, hh2⟩ := q2
  subst hv2
  have E2 : T2.heap = h0 := e2.trans hh2
  have N2 := Fr.app N0 Nf2
  show Go p.tables e below _ T2 (mkF m 7 #[.val (.ref a1)] [(.int (0 : Int32))])
  refine Go.st (T' := T2) (g' := (mkF m 24 #[.val (.ref a1)] [])) (fun _ zk => XS.ifYes X2.here hx rfl (pc0 := 7) (pc' := 24) rfl (hb hby d7_7) rfl ((if0 _ _).trans (teq (rfl : (0 : Int32) = (0 : Int32))).1) (by decide) (by decide) zk) ?_
  refine Go.st (T' := T2) (g' := (mkF m 25 #[.val (.ref a1)] [(.int (0 : Int32))])) (fun _ zk => XS.iconst X2.here hx rfl (hb hby d7_24) zk) ?_
  refine Go.retN X2 hx hlk hret rfl (by simp) (hb hby d7_25) (by decide) (by decide) E2 ?_
  exact ⟨rfl, N2, rfl⟩
def rr_isEmpty_12 : Room := { frames := 1, cells := 0, slots := 0, locals := 12 }
set_option maxRecDepth 65536 in
set_option maxHeartbeats 40000000 in
theorem rm_isEmpty_12 (l : Launch) (Z : State) (a0 : Array Value) (hw : ∀ d ∈ tables_1, d.before a0 Z = true) (ws : List Jvm.Cond) (a1 : Addr) (u t_u : Addr) (k_u : ClassId) (u_0 : Int32) (w t_w : Addr) (k_w : ClassId) (w_0 w_1 : Int32) (h0 : Heap) (n0 : Nat) (Z0 : n0 ≤ h0.size) (E_u : Exa Z h0 u "java/lang/String") (F_u : Fld Z h0 u "java/lang/String" "value" "[B" (.ref t_u)) (V_u : Arv Z h0 t_u k_u .byte (1 : Int32) [(.int u_0)] (.int (0 : Int32))) (E_w : Exa Z h0 w "java/lang/String") (F_w : Fld Z h0 w "java/lang/String" "value" "[B" (.ref t_w)) (V_w : Arv Z h0 t_w k_w .byte (2 : Int32) [(.int w_0), (.int w_1)] (.int (0 : Int32))) (G1 : Fld Z h0 a1 "com/example/attestry/attestry/bundle/MessageType" "code" "Ljava/lang/String;" (.ref u)) (G2 : Fld Z h0 a1 "com/example/attestry/attestry/bundle/MessageType" "triggerEvent" "Ljava/lang/String;" (.ref w)) :
    Con l Z (⟨"com/example/attestry/attestry/bundle/MessageType", "isEmpty", "()Z"⟩ : MethodName) prog_32_method_3_code 1 (some .boolean) ws rr_isEmpty_12 #[(.ref a1)] h0 (fun v h L => v = some (.int 0) ∧ Fr n0 L ∧ h = h0) := by
  refine Con.enter (plainFor_of_name pn2) ?_
  intro p e s m below meth c s₁ X0 hx hZ hby hml hret hlk hown hnm e0
  have N0 := Fr.nil n0
  refine Go.cast (g' := (mkF m 0 #[.val (.ref a1)] [])) (by first | rfl | (simp [entryFrame, mkF, argsToLocals, Value.category]; done)) ?_
  refine Go.st (T' := s₁) (g' := (mkF m 1 #[.val (.ref a1)] [(.ref a1)])) (fun _ zk => XS.aloadN X0.here hx rfl (hb hby d7_0) rfl rfl zk) ?_
  obtain ⟨T1, X1, e1, st1⟩ := getF X0 hx hZ hown (host := "") (Or.inl (w39 hw)) Via.refl e0 G1 (g := (mkF m 1 #[.val (.ref a1)] [(.ref a1)])) rfl rfl (hb hby d7_1)
  refine Go.st (T' := T1) (g' := (mkF m 4 #[.val (.ref a1)] [(.ref u)])) (fun _ zk => st1 _ zk) ?_
  refine Go.callV (y := (⟨"java/lang/String", "isEmpty", "()Z"⟩ : MethodName)) (z := (⟨"java/lang/String", "isEmpty", "()Z"⟩ : MethodName)) (C := "java/lang/String") (a := u) X1 hx hZ hown e1 (w48 hw) (w49 hw) (w51 hw) (w50 hw) (w7 hw) (w52 hw) (notFace_of_selects (args := #[]) (mvT hZ (w51 hw))) (by decide) E_u (argsL := []) (rest := []) (W := 0) (rm_emp_1 l Z a0 hw [] u t_u k_u u_0 h0 n0 Z0 F_u V_u) rfl (lenOf pd4 rfl) rfl (by rw [hml]; rfl) rfl (by show 2 * 0 + _ ≤ _; exact Nat.le_of_eq rfl) (by decide) (by decide) (by decide) (by decide) (hb hby d7_4) ?_
  intro v2 T2 h2 L2 X2 e2 q2
  obtain ⟨hv2, Nf2, hh2⟩ := q2
  subst hv2
  have E2 : T2.heap = h0 := e2.trans hh2
  have N2 := Fr.app N0 Nf2
  show Go p.tables e below _ T2 (mkF m 7 #[.val (.ref a1)] [(.int (0 : Int32))])
  refine Go.st (T' := T2) (g' := (mkF m 24 #[.val (.ref a1)] [])) (fun _ zk => XS.ifYes X2.here hx rfl (pc0 := 7) (pc' := 24) rfl (hb hby d7_7) rfl ((if0 _ _).trans (teq (rfl : (0 : Int32) = (0 : Int32))).1) (by decide) (by decide) zk) ?_
  refine Go.st (T' := T2) (g' := (mkF m 25 #[.val (.ref a1)] [(.int (0 : Int32))])) (fun _ zk => XS.iconst X2.here hx rfl (hb hby d7_24) zk) ?_
  refine Go.retN X2 hx hlk hret rfl (by simp) (hb hby d7_25) (by decide) (by decide) E2 ?_
  exact ⟨rfl, N2, rfl⟩
def rr_isEmpty_20 : Room := { frames := 1, cells := 0, slots := 0, locals := 12 }
set_option maxRecDepth 65536 in
set_option maxHeartbeats 40000000 in
theorem rm_isEmpty_20 (l : Launch) (Z : State) (a0 : Array Value) (hw : ∀ d ∈ tables_1, d.before a0 Z = true) (ws : List Jvm.Cond) (a1 : Addr) (u t_u : Addr) (k_u : ClassId) (u_0 u_1 : Int32) (w t_w : Addr) (k_w : ClassId) (h0 : Heap) (n0 : Nat) (Z0 : n0 ≤ h0.size) (E_u : Exa Z h0 u "java/lang/String") (F_u : Fld Z h0 u "java/lang/String" "value" "[B" (.ref t_u)) (V_u : Arv Z h0 t_u k_u .byte (2 : Int32) [(.int u_0), (.int u_1)] (.int (0 : Int32))) (E_w : Exa Z h0 w "java/lang/String") (F_w : Fld Z h0 w "java/lang/String" "value" "[B" (.ref t_w)) (V_w : Arv Z h0 t_w k_w .byte (0 : Int32) [] (.int (0 : Int32))) (G1 : Fld Z h0 a1 "com/example/attestry/attestry/bundle/MessageType" "code" "Ljava/lang/String;" (.ref u)) (G2 : Fld Z h0 a1 "com/example/attestry/attestry/bundle/MessageType" "triggerEvent" "Ljava/lang/String;" (.ref w)) :
    Con l Z (⟨"com/example/attestry/attestry/bundle/MessageType", "isEmpty", "()Z"⟩ : MethodName) prog_32_method_3_code 1 (some .boolean) ws rr_isEmpty_20 #[(.ref a1)] h0 (fun v h L => v = some (.int 0) ∧ Fr n0 L ∧ h = h0) := by
  refine Con.enter (plainFor_of_name pn2) ?_
  intro p e s m below meth c s₁ X0 hx hZ hby hml hret hlk hown hnm e0
  have N0 := Fr.nil n0
  refine Go.cast (g' := (mkF m 0 #[.val (.ref a1)] [])) (by first | rfl | (simp [entryFrame, mkF, argsToLocals, Value.category]; done)) ?_
  refine Go.st (T' := s₁) (g' := (mkF m 1 #[.val (.ref a1)] [(.ref a1)])) (fun _ zk => XS.aloadN X0.here hx rfl (hb hby d7_0) rfl rfl zk) ?_
  obtain ⟨T1, X1, e1, st1⟩ := getF X0 hx hZ hown (host := "") (Or.inl (w39 hw)) Via.refl e0 G1 (g := (mkF m 1 #[.val (.ref a1)] [(.ref a1)])) rfl rfl (hb hby d7_1)
  refine Go.st (T' := T1) (g' := (mkF m 4 #[.val (.ref a1)] [(.ref u)])) (fun _ zk => st1 _ zk) ?_
  refine Go.callV (y := (⟨"java/lang/String", "isEmpty", "()Z"⟩ : MethodName)) (z := (⟨"java/lang/String", "isEmpty", "()Z"⟩ : MethodName)) (C := "java/lang/String") (a := u) X1 hx hZ hown e1 (w48 hw) (w49 hw) (w51 hw) (w50 hw) (w7 hw) (w52 hw) (notFace_of_selects (args := #[]) (mvT hZ (w51 hw))) (by decide) E_u (argsL := []) (rest := []) (W := 0) (rm_emp_2 l Z a0 hw [] u t_u k_u u_0 u_1 h0 n0 Z0 F_u V_u) rfl (lenOf pd4 rfl) rfl (by rw [hml]; rfl) rfl (by show 2 * 0 + _ ≤ _; exact Nat.le_of_eq rfl) (by decide) (by decide) (by decide) (by decide) (hb hby d7_4) ?_
  intro v2 T2 h2 L2 X2 e2 q2
  obtain ⟨hv2, Nf2, hh2⟩ := q2
  subst hv2
  have E2 : T2.heap = h0 := e2.trans hh2
  have N2 := Fr.app N0 Nf2
  show Go p.tables e below _ T2 (mkF m 7 #[.val (.ref a1)] [(.int (0 : Int32))])
  refine Go.st (T' := T2) (g' := (mkF m 24 #[.val (.ref a1)] [])) (fun _ zk => XS.ifYes X2.here hx rfl (pc0 := 7) (pc' := 24) rfl (hb hby d7_7) rfl ((if0 _ _).trans (teq (rfl : (0 : Int32) = (0 : Int32))).1) (by decide) (by decide) zk) ?_
  refine Go.st (T' := T2) (g' := (mkF m 25 #[.val (.ref a1)] [(.int (0 : Int32))])) (fun _ zk => XS.iconst X2.here hx rfl (hb hby d7_24) zk) ?_
  refine Go.retN X2 hx hlk hret rfl (by simp) (hb hby d7_25) (by decide) (by decide) E2 ?_
  exact ⟨rfl, N2, rfl⟩
def rr_isEmpty_21 : Room := { frames := 1, cells := 0, slots := 0, locals := 12 }
set_option maxRecDepth 65536 in
set_option maxHeartbeats 40000000 in
theorem rm_isEmpty_21 (l : Launch) (Z : State) (a0 : Array Value) (hw : ∀ d ∈ tables_1, d.before a0 Z = true) (ws : List Jvm.Cond) (a1 : Addr) (u t_u : Addr) (k_u : ClassId) (u_0 u_1 : Int32) (w t_w : Addr) (k_w : ClassId) (w_0 : Int32) (h0 : Heap) (n0 : Nat) (Z0 : n0 ≤ h0.size) (E_u : Exa Z h0 u "java/lang/String") (F_u : Fld Z h0 u "java/lang/String" "value" "[B" (.ref t_u)) (V_u : Arv Z h0 t_u k_u .byte (2 : Int32) [(.int u_0), (.int u_1)] (.int (0 : Int32))) (E_w : Exa Z h0 w "java/lang/String") (F_w : Fld Z h0 w "java/lang/String" "value" "[B" (.ref t_w)) (V_w : Arv Z h0 t_w k_w .byte (1 : Int32) [(.int w_0)] (.int (0 : Int32))) (G1 : Fld Z h0 a1 "com/example/attestry/attestry/bundle/MessageType" "code" "Ljava/lang/String;" (.ref u)) (G2 : Fld Z h0 a1 "com/example/attestry/attestry/bundle/MessageType" "triggerEvent" "Ljava/lang/String;" (.ref w)) :
    Con l Z (⟨"com/example/attestry/attestry/bundle/MessageType", "isEmpty", "()Z"⟩ : MethodName) prog_32_method_3_code 1 (some .boolean) ws rr_isEmpty_21 #[(.ref a1)] h0 (fun v h L => v = some (.int 0) ∧ Fr n0 L ∧ h = h0) := by
  refine Con.enter (plainFor_of_name pn2) ?_
  intro p e s m below meth c s₁ X0 hx hZ hby hml hret hlk hown hnm e0
  have N0 := Fr.nil n0
  refine Go.cast (g' := (mkF m 0 #[.val (.ref a1)] [])) (by first | rfl | (simp [entryFrame, mkF, argsToLocals, Value.category]; done)) ?_
  refine Go.st (T' := s₁) (g' := (mkF m 1 #[.val (.ref a1)] [(.ref a1)])) (fun _ zk => XS.aloadN X0.here hx rfl (hb hby d7_0) rfl rfl zk) ?_
  obtain ⟨T1, X1, e1, st1⟩ := getF X0 hx hZ hown (host := "") (Or.inl (w39 hw)) Via.refl e0 G1 (g := (mkF m 1 #[.val (.ref a1)] [(.ref a1)])) rfl rfl (hb hby d7_1)
  refine Go.st (T' := T1) (g' := (mkF m 4 #[.val (.ref a1)] [(.ref u)])) (fun _ zk => st1 _ zk) ?_
  refine Go.callV (y := (⟨"java/lang/String", "isEmpty", "()Z"⟩ : MethodName)) (z := (⟨"java/lang/String", "isEmpty", "()Z"⟩ : MethodName)) (C := "java/lang/String") (a := u) X1 hx hZ hown e1 (w48 hw) (w49 hw) (w51 hw) (w50 hw) (w7 hw) (w52 hw) (notFace_of_selects (args := #[]) (mvT hZ (w51 hw))) (by decide) E_u (argsL := []) (rest := []) (W := 0) (rm_emp_2 l Z a0 hw [] u t_u k_u u_0 u_1 h0 n0 Z0 F_u V_u) rfl (lenOf pd4 rfl) rfl (by rw [hml]; rfl) rfl (by show 2 * 0 + _ ≤ _; exact Nat.le_of_eq rfl) (by decide) (by decide) (by decide) (by decide) (hb hby d7_4) ?_
  intro v2 T2 h2 L2 X2 e2 q2
  obtain ⟨hv2, Nf2, hh2⟩ := q2
  subst hv2
  have E2 : T2.heap = h0 := e2.trans hh2
  have N2 := Fr.app N0 Nf2
  show Go p.tables e below _ T2 (mkF m 7 #[.val (.ref a1)] [(.int (0 : Int32))])
  refine Go.st (T' := T2) (g' := (mkF m 24 #[.val (.ref a1)] [])) (fun _ zk => XS.ifYes X2.here hx rfl (pc0 := 7) (pc' := 24) rfl (hb hby d7_7) rfl ((if0 _ _).trans (teq (rfl : (0 : Int32) = (0 : Int32))).1) (by decide) (by decide) zk) ?_
  refine Go.st (T' := T2) (g' := (mkF m 25 #[.val (.ref a1)] [(.int (0 : Int32))])) (fun _ zk => XS.iconst X2.here hx rfl (hb hby d7_24) zk) ?_
  refine Go.retN X2 hx hlk hret rfl (by simp) (hb hby d7_25) (by decide) (by decide) E2 ?_
  exact ⟨rfl, N2, rfl⟩
def rr_isEmpty_22 : Room := { frames := 1, cells := 0, slots := 0, locals := 12 }
set_option maxRecDepth 65536 in
set_option maxHeartbeats 40000000 in
theorem rm_isEmpty_22 (l : Launch) (Z : State) (a0 : Array Value) (hw : ∀ d ∈ tables_1, d.before a0 Z = true) (ws : List Jvm.Cond) (a1 : Addr) (u t_u : Addr) (k_u : ClassId) (u_0 u_1 : Int32) (w t_w : Addr) (k_w : ClassId) (w_0 w_1 : Int32) (h0 : Heap) (n0 : Nat) (Z0 : n0 ≤ h0.size) (E_u : Exa Z h0 u "java/lang/String") (F_u : Fld Z h0 u "java/lang/String" "value" "[B" (.ref t_u)) (V_u : Arv Z h0 t_u k_u .byte (2 : Int32) [(.int u_0), (.int u_1)] (.int (0 : Int32))) (E_w : Exa Z h0 w "java/lang/String") (F_w : Fld Z h0 w "java/lang/String" "value" "[B" (.ref t_w)) (V_w : Arv Z h0 t_w k_w .byte (2 : Int32) [(.int w_0), (.int w_1)] (.int (0 : Int32))) (G1 : Fld Z h0 a1 "com/example/attestry/attestry/bundle/MessageType" "code" "Ljava/lang/String;" (.ref u)) (G2 : Fld Z h0 a1 "com/example/attestry/attestry/bundle/MessageType" "triggerEvent" "Ljava/lang/String;" (.ref w)) :
    Con l Z (⟨"com/example/attestry/attestry/bundle/MessageType", "isEmpty", "()Z"⟩ : MethodName) prog_32_method_3_code 1 (some .boolean) ws rr_isEmpty_22 #[(.ref a1)] h0 (fun v h L => v = some (.int 0) ∧ Fr n0 L ∧ h = h0) := by
  refine Con.enter (plainFor_of_name pn2) ?_
  intro p e s m below meth c s₁ X0 hx hZ hby hml hret hlk hown hnm e0
  have N0 := Fr.nil n0
  refine Go.cast (g' := (mkF m 0 #[.val (.ref a1)] [])) (by first | rfl | (simp [entryFrame, mkF, argsToLocals, Value.category]; done)) ?_
  refine Go.st (T' := s₁) (g' := (mkF m 1 #[.val (.ref a1)] [(.ref a1)])) (fun _ zk => XS.aloadN X0.here hx rfl (hb hby d7_0) rfl rfl zk) ?_
  obtain ⟨T1, X1, e1, st1⟩ := getF X0 hx hZ hown (host := "") (Or.inl (w39 hw)) Via.refl e0 G1 (g := (mkF m 1 #[.val (.ref a1)] [(.ref a1)])) rfl rfl (hb hby d7_1)
  refine Go.st (T' := T1) (g' := (mkF m 4 #[.val (.ref a1)] [(.ref u)])) (fun _ zk => st1 _ zk) ?_
  refine Go.callV (y := (⟨"java/lang/String", "isEmpty", "()Z"⟩ : MethodName)) (z := (⟨"java/lang/String", "isEmpty", "()Z"⟩ : MethodName)) (C := "java/lang/String") (a := u) X1 hx hZ hown e1 (w48 hw) (w49 hw) (w51 hw) (w50 hw) (w7 hw) (w52 hw) (notFace_of_selects (args := #[]) (mvT hZ (w51 hw))) (by decide) E_u (argsL := []) (rest := []) (W := 0) (rm_emp_2 l Z a0 hw [] u t_u k_u u_0 u_1 h0 n0 Z0 F_u V_u) rfl (lenOf pd4 rfl) rfl (by rw [hml]; rfl) rfl (by show 2 * 0 + _ ≤ _; exact Nat.le_of_eq rfl) (by decide) (by decide) (by decide) (by decide) (hb hby d7_4) ?_
  intro v2 T2 h2 L2 X2 e2 q2
  obtain ⟨hv2, Nf2, hh2⟩ := q2
  subst hv2
  have E2 : T2.heap = h0 := e2.trans hh2
  have N2 := Fr.app N0 Nf2
  show Go p.tables e below _ T2 (mkF m 7 #[.val (.ref a1)] [(.int (0 : Int32))])
  refine Go.st (T' := T2) (g' := (mkF m 24 #[.val (.ref a1)] [])) (fun _ zk => XS.ifYes X2.here hx rfl (pc0 := 7) (pc' := 24) rfl (hb hby d7_7) rfl ((if0 _ _).trans (teq (rfl : (0 : Int32) = (0 : Int32))).1) (by decide) (by decide) zk) ?_
  refine Go.st (T' := T2) (g' := (mkF m 25 #[.val (.ref a1)] [(.int (0 : Int32))])) (fun _ zk => XS.iconst X2.here hx rfl (hb hby d7_24) zk) ?_
  refine Go.retN X2 hx hlk hret rfl (by simp) (hb hby d7_25) (by decide) (by decide) E2 ?_
  exact ⟨rfl, N2, rfl⟩
theorem d3_0 : decode jdk_42_method_149_code 0 = .ok (.aload_n 0, 1) := by decide +kernel
theorem d3_1 : decode jdk_42_method_149_code 1 = .ok (.invokespecial 1, 3) := by decide +kernel
theorem w16 {a0 : Array Value} {Z : State} (hw : ∀ d ∈ tables_1, d.before a0 Z = true) : ((Jvm.Cond.methodLink "java/lang/String" (1 : Nat) ({ cls := "java/lang/Object", name := "<init>", desc := "()V" } : Jvm.MethodName))).before a0 Z = true := hw _ (List.mem_of_getElem? (i := 16) rfl)
theorem d3_4 : decode jdk_42_method_149_code 4 = .ok (.iload_n 3, 1) := by decide +kernel
theorem d3_5 : decode jdk_42_method_149_code 5 = .ok (.ifCond .ne 22, 3) := by decide +kernel
theorem d3_8 : decode jdk_42_method_149_code 8 = .ok (.aload_n 0, 1) := by decide +kernel
theorem d3_9 : decode jdk_42_method_149_code 9 = .ok (.ldc 7, 2) := by decide +kernel
theorem d3_11 : decode jdk_42_method_149_code 11 = .ok (.getfield 9, 3) := by decide +kernel
theorem d3_14 : decode jdk_42_method_149_code 14 = .ok (.putfield 9, 3) := by decide +kernel
theorem w6 {a0 : Array Value} {Z : State} (hw : ∀ d ∈ tables_1, d.before a0 Z = true) : ((Jvm.Cond.instantiable "java/lang/String" (4 : Nat))).before a0 Z = true := hw _ (List.mem_of_getElem? (i := 6) rfl)
theorem w21 {a0 : Array Value} {Z : State} (hw : ∀ d ∈ tables_1, d.before a0 Z = true) : ((Jvm.Cond.laysFinal "java/lang/String" "java/lang/String" "value" "[B")).before a0 Z = true := hw _ (List.mem_of_getElem? (i := 21) rfl)
theorem d3_17 : decode jdk_42_method_149_code 17 = .ok (.aload_n 0, 1) := by decide +kernel
theorem d3_18 : decode jdk_42_method_149_code 18 = .ok (.ldc 7, 2) := by decide +kernel
theorem d3_20 : decode jdk_42_method_149_code 20 = .ok (.getfield 15, 3) := by decide +kernel
theorem w26 {a0 : Array Value} {Z : State} (hw : ∀ d ∈ tables_1, d.before a0 Z = true) : ((Jvm.Cond.fieldLink "java/lang/String" (15 : Nat) "java/lang/String" "coder" "B")).before a0 Z = true := hw _ (List.mem_of_getElem? (i := 26) rfl)
theorem d3_23 : decode jdk_42_method_149_code 23 = .ok (.putfield 15, 3) := by decide +kernel
theorem w22 {a0 : Array Value} {Z : State} (hw : ∀ d ∈ tables_1, d.before a0 Z = true) : ((Jvm.Cond.laysFinal "java/lang/String" "java/lang/String" "coder" "B")).before a0 Z = true := hw _ (List.mem_of_getElem? (i := 22) rfl)
theorem d3_26 : decode jdk_42_method_149_code 26 = .ok (.return_, 1) := by decide +kernel
def rr_init4_0 : Room := { frames := 1, cells := 4, slots := 8, locals := 12 }
set_option maxRecDepth 65536 in
set_option maxHeartbeats 40000000 in
theorem rm_init4_0 (l : Launch) (Z : State) (a0 : Array Value) (hw : ∀ d ∈ tables_1, d.before a0 Z = true) (ws : List Jvm.Cond) (a1 b : Addr) (kC : ClassId) (h0 : Heap) (n0 : Nat) (Z0 : n0 ≤ h0.size) (E0 : Exa Z h0 a1 "java/lang/String") (g0 : n0 ≤ a1) (C0 : Fld Z h0 a1 "java/lang/String" "coder" "B" (.int (0 : Int32))) (V0 : Fld Z h0 a1 "java/lang/String" "value" "[B" .null) (VC : Arv Z h0 b kC .char (0 : Int32) [] (.int (0 : Int32))) :
    ConS l Z EL0 (⟨"java/lang/String", "<init>", "([CIILjava/lang/Void;)V"⟩ : MethodName) jdk_42_method_149_code 6 none ws rr_init4_0 #[(.ref a1), (.ref b), (.int (0 : Int32)), (.int (0 : Int32)), .null] h0 [a1] (fun v h L => v = none ∧ Fr n0 L ∧ Keep h0 h [a1] ∧ Fld Z h a1 "java/lang/String" "coder" "B" (.int (0 : Int32)) ∧ ∃ (t : Addr) (k : ClassId), Fld Z h a1 "java/lang/String" "value" "[B" (.ref t) ∧ Arv Z h t k .byte (0 : Int32) [] (.int (0 : Int32))) := by
  refine ConS.enter (plainFor_of_name pn3) ?_
  intro p e s m below meth c s₁ X0 hx hZ hby hml hret hlk hown hnm e0 hS hA hsf
  have N0 := Fr.nil n0
  have hEL := hEL0 hw
  have hSt := hSt0 hw
  refine Go.cast (g' := (mkF m 0 #[.val (.ref a1), .val (.ref b), .val (.int (0 : Int32)), .val (.int (0 : Int32)), .val .null, .unset] [])) (by first | rfl | (simp [entryFrame, mkF, argsToLocals, Value.category]; done)) ?_
  refine Go.st (T' := s₁) (g' := (mkF m 1 #[.val (.ref a1), .val (.ref b), .val (.int (0 : Int32)), .val (.int (0 : Int32)), .val .null, .unset] [(.ref a1)])) (fun _ zk => XS.aloadN X0.here hx rfl (hb hby d3_0) rfl rfl zk) ?_
  obtain ⟨T1, X1, e1, st1⟩ := initO X0 hx hZ hown (w16 hw) (w17 hw) (w18 hw) e0 (g := (mkF m 1 #[.val (.ref a1), .val (.ref b), .val (.int (0 : Int32)), .val (.int (0 : Int32)), .val .null, .unset] [(.ref a1)])) rfl (by rw [hml]; rfl) rfl (hb hby d3_1) (by decide) (W := 0) (by show 2 * 0 + _ ≤ _; exact Nat.le_of_eq rfl) (by decide)
  refine Go.st (T' := T1) (g' := (mkF m 4 #[.val (.ref a1), .val (.ref b), .val (.int (0 : Int32)), .val (.int (0 : Int32)), .val .null, .unset] [])) (fun _ zk => st1 _ zk) ?_
  refine Go.st (T' := T1) (g' := (mkF m 5 #[.val (.ref a1), .val (.ref b), .val (.int (0 : Int32)), .val (.int (0 : Int32)), .val .null, .unset] [(.int (0 : Int32))])) (fun _ zk => XS.iloadN X1.here hx rfl (hb hby d3_4) rfl zk) ?_
  refine Go.st (T' := T1) (g' := (mkF m 8 #[.val (.ref a1), .val (.ref b), .val (.int (0 : Int32)), .val (.int (0 : Int32)), .val .null, .unset] [])) (fun _ zk => XS.ifNo X1.here hx rfl (hb hby d3_5) rfl ((if0 _ _).trans (teq (rfl : (0 : Int32) = (0 : Int32))).2) zk) ?_
  refine Go.st (T' := T1) (g' := (mkF m 9 #[.val (.ref a1), .val (.ref b), .val (.int (0 : Int32)), .val (.int (0 : Int32)), .val .null, .unset] [(.ref a1)])) (fun _ zk => XS.aloadN X1.here hx rfl (hb hby d3_8) rfl rfl zk) ?_
  obtain ⟨l2, T2, h2, kk2, lt2, kl2, X2, e2, E2, hS, hk2, hZ', hown, A2, C2, F2, V2, la2, lb2, cr2, -, sf2, st2⟩ := ldcCH X1 hx hZ hown (w19 hw) hSt e1 hS (Nat.zero_le _) hEL (by decide) hA.1 (vs := []) (z := (0 : Int32)) ⟨by decide, by decide⟩ (by decide) (by decide) (g := (mkF m 9 #[.val (.ref a1), .val (.ref b), .val (.int (0 : Int32)), .val (.int (0 : Int32)), .val .null, .unset] [(.ref a1)])) rfl (hb hby d3_9) (n := 0) (by decide) (by decide) (by decide) (by decide)
  have hZ : Z.Warmed39 T2.vm := hZ'
  have ca3 := hA.trans cr2
  have sf_4 := cr2.safe E0.lt (hsf a1 (List.mem_of_getElem? (i := 0) rfl))
  refine Go.st (T' := T2) (g' := (mkF m 11 #[.val (.ref a1), .val (.ref b), .val (.int (0 : Int32)), .val (.int (0 : Int32)), .val .null, .unset] [(.ref l2), (.ref a1)])) (fun _ zk => st2 _ zk) ?_
  obtain ⟨T5, X5, e5, st5⟩ := getF X2 hx hZ hown (host := "") (Or.inl (w25 hw)) Via.refl e2 F2 (g := (mkF m 11 #[.val (.ref a1), .val (.ref b), .val (.int (0 : Int32)), .val (.int (0 : Int32)), .val .null, .unset] [(.ref l2), (.ref a1)])) rfl rfl (hb hby d3_11)
  refine Go.st (T' := T5) (g' := (mkF m 14 #[.val (.ref a1), .val (.ref b), .val (.int (0 : Int32)), .val (.int (0 : Int32)), .val .null, .unset] [(.ref lt2), (.ref a1)])) (fun _ zk => st5 _ zk) ?_
  have x7 : Ext h0 h2 := E2
  have f8 := V0.ext x7
  have f9 := E0.ext x7
  obtain ⟨T6, h6, X6, e6, W6, st6⟩ := putF X5 hx hZ hown (host := "") (Or.inl (w25 hw)) Via.refl e5 f8 f9 (Or.inr ⟨(w21 hw), rfl, hnm⟩) (w6 hw) (ty := (.array .byte)) (by decide) rfl rfl (g := (mkF m 14 #[.val (.ref a1), .val (.ref b), .val (.int (0 : Int32)), .val (.int (0 : Int32)), .val .null, .unset] [(.ref lt2), (.ref a1)])) rfl rfl (hb hby d3_14)
  have F6 := f8.same W6
  have N6 := Fr.snoc X6 N0 g0
  refine Go.st (T' := T6) (g' := (mkF m 17 #[.val (.ref a1), .val (.ref b), .val (.int (0 : Int32)), .val (.int (0 : Int32)), .val .null, .unset] [])) (fun _ zk => st6 _ zk) ?_
  refine Go.st (T' := T6) (g' := (mkF m 18 #[.val (.ref a1), .val (.ref b), .val (.int (0 : Int32)), .val (.int (0 : Int32)), .val .null, .unset] [(.ref a1)])) (fun _ zk => XS.aloadN X6.here hx rfl (hb hby d3_17) rfl rfl zk) ?_
  have cr11 := (chrW ca3 W6 sf_4)
  have cr12 := ca3
  obtain ⟨l10, T10, h10, kk10, lt10, kl10, X10, e10, E10, hS, hk10, hZ', hown, A10, C10, F10, V10, la10, lb10, cr10, -, sf10, st10⟩ := ldcCH X6 hx hZ hown (w19 hw) hSt e6 hS (Nat.le_trans hk2 (Keep.of_wr W6).1) hEL (by decide) cr11.1 (vs := []) (z := (0 : Int32)) ⟨by decide, by decide⟩ (by decide) (by decide) (g := (mkF m 18 #[.val (.ref a1), .val (.ref b), .val (.int (0 : Int32)), .val (.int (0 : Int32)), .val .null, .unset] [(.ref a1)])) rfl (hb hby d3_18) (n := 0) (by decide) (by decide) (by decide) (by decide)
  have hZ : Z.Warmed39 T10.vm := hZ'
  have ca13 := cr11.trans cr10
  have sf_14 := cr10.safe (Nat.lt_of_lt_of_le E0.lt (Nat.le_trans E2.1 (Keep.of_wr W6).1)) (Safe.wr W6 sf_4 (cr12).1 sf_4)
  refine Go.st (T' := T10) (g' := (mkF m 20 #[.val (.ref a1), .val (.ref b), .val (.int (0 : Int32)), .val (.int (0 : Int32)), .val .null, .unset] [(.ref l10), (.ref a1)])) (fun _ zk => st10 _ zk) ?_
  obtain ⟨T15, X15, e15, st15⟩ := getF X10 hx hZ hown (host := "") (Or.inl (w26 hw)) Via.refl e10 C10 (g := (mkF m 20 #[.val (.ref a1), .val (.ref b), .val (.int (0 : Int32)), .val (.int (0 : Int32)), .val .null, .unset] [(.ref l10), (.ref a1)])) rfl rfl (hb hby d3_20)
  refine Go.st (T' := T15) (g' := (mkF m 23 #[.val (.ref a1), .val (.ref b), .val (.int (0 : Int32)), .val (.int (0 : Int32)), .val .null, .unset] [(.int (0 : Int32)), (.ref a1)])) (fun _ zk => st15 _ zk) ?_
  have f17 := (((C0.ext E2).other W6 (Or.inr (slot_ne (Or.inr (w22 hw)) (Or.inr (w21 hw)) (by decide) (t := .byte) (t' := (.array .byte)) (by decide) (by decide)))).ext E10)
  have f18 := ((f9.wr W6).ext E10)
  obtain ⟨T16, h16, X16, e16, W16, st16⟩ := putF X15 hx hZ hown (host := "") (Or.inl (w26 hw)) Via.refl e15 f17 f18 (Or.inr ⟨(w22 hw), rfl, hnm⟩) (w6 hw) (ty := .byte) (by decide) rfl rfl (g := (mkF m 23 #[.val (.ref a1), .val (.ref b), .val (.int (0 : Int32)), .val (.int (0 : Int32)), .val .null, .unset] [(.int (0 : Int32)), (.ref a1)])) rfl rfl (hb hby d3_23)
  have F16 := f17.same W16
  have N16 := Fr.snoc X16 N6 g0
  refine Go.st (T' := T16) (g' := (mkF m 26 #[.val (.ref a1), .val (.ref b), .val (.int (0 : Int32)), .val (.int (0 : Int32)), .val .null, .unset] [])) (fun _ zk => st16 _ zk) ?_
  have f19 := ((F6.ext E10).other W16 (Or.inr (slot_ne (Or.inr (w21 hw)) (Or.inr (w22 hw)) (by decide) (t := (.array .byte)) (t' := .byte) (by decide) (by decide))))
  have f20 := (((V2.other W6 (Ne.symm (sf2 a1 sf_4).2)).ext E10).other W16 (Ne.symm (sf2 a1 sf_4).2))
  have cr21 := (chrW ca13 W16 sf_14)
  refine Go.retVS X16 hx hlk hS (Nat.le_trans hk10 (Keep.of_wr W16).1) cr21 hZ hEL hret (hb hby d3_26) (by decide) (by decide) e16 ?_
  exact ⟨rfl, N16, (((((Keep.refl h0 [a1]).ext E2).wr W6 (Or.inl (List.mem_of_getElem? (i := 0) rfl))).ext E10).wr W16 (Or.inl (List.mem_of_getElem? (i := 0) rfl))), F16, lt2, _, f19, f20⟩
theorem d2_0 : decode jdk_42_method_3_code 0 = .ok (.aload_n 0, 1) := by decide +kernel
theorem d2_1 : decode jdk_42_method_3_code 1 = .ok (.aload_n 1, 1) := by decide +kernel
theorem d2_2 : decode jdk_42_method_3_code 2 = .ok (.iconst 0, 1) := by decide +kernel
theorem d2_3 : decode jdk_42_method_3_code 3 = .ok (.aload_n 1, 1) := by decide +kernel
theorem d2_4 : decode jdk_42_method_3_code 4 = .ok (.arraylength, 1) := by decide +kernel
theorem d2_5 : decode jdk_42_method_3_code 5 = .ok (.aconst_null, 1) := by decide +kernel
theorem w15 {a0 : Array Value} {Z : State} (hw : ∀ d ∈ tables_1, d.before a0 Z = true) : ((Jvm.Cond.code ({ cls := "java/lang/String", name := "<init>", desc := "([CIILjava/lang/Void;)V" } : Jvm.MethodName) jdk_42_method_149_code (6 : Nat) (Option.none : Option Jvm.ClassFile.FieldType))).before a0 Z = true := hw _ (List.mem_of_getElem? (i := 15) rfl)
theorem pd5 : parseMethodDescriptor "([CIILjava/lang/Void;)V" = some ⟨[(.array .char), .int, .int, (.object "java/lang/Void")], none⟩ := by decide +kernel
theorem d2_6 : decode jdk_42_method_3_code 6 = .ok (.invokespecial 27, 3) := by decide +kernel
theorem w12 {a0 : Array Value} {Z : State} (hw : ∀ d ∈ tables_1, d.before a0 Z = true) : ((Jvm.Cond.methodLink "java/lang/String" (27 : Nat) ({ cls := "java/lang/String", name := "<init>", desc := "([CIILjava/lang/Void;)V" } : Jvm.MethodName))).before a0 Z = true := hw _ (List.mem_of_getElem? (i := 12) rfl)
theorem w13 {a0 : Array Value} {Z : State} (hw : ∀ d ∈ tables_1, d.before a0 Z = true) : ((Jvm.Cond.instanceMethod ({ cls := "java/lang/String", name := "<init>", desc := "([CIILjava/lang/Void;)V" } : Jvm.MethodName))).before a0 Z = true := hw _ (List.mem_of_getElem? (i := 13) rfl)
theorem d2_9 : decode jdk_42_method_3_code 9 = .ok (.return_, 1) := by decide +kernel
def rr_init1_0 : Room := { frames := 2, cells := 4, slots := 8, locals := 29 }
set_option maxRecDepth 65536 in
set_option maxHeartbeats 40000000 in
theorem rm_init1_0 (l : Launch) (Z : State) (a0 : Array Value) (hw : ∀ d ∈ tables_1, d.before a0 Z = true) (ws : List Jvm.Cond) (a1 b : Addr) (kC : ClassId) (h0 : Heap) (n0 : Nat) (Z0 : n0 ≤ h0.size) (E0 : Exa Z h0 a1 "java/lang/String") (g0 : n0 ≤ a1) (C0 : Fld Z h0 a1 "java/lang/String" "coder" "B" (.int (0 : Int32))) (V0 : Fld Z h0 a1 "java/lang/String" "value" "[B" .null) (VC : Arv Z h0 b kC .char (0 : Int32) [] (.int (0 : Int32))) :
    ConS l Z EL0 (⟨"java/lang/String", "<init>", "([C)V"⟩ : MethodName) jdk_42_method_3_code 2 none ws rr_init1_0 #[(.ref a1), (.ref b)] h0 [a1] (fun v h L => v = none ∧ Fr n0 L ∧ Keep h0 h [a1] ∧ Fld Z h a1 "java/lang/String" "coder" "B" (.int (0 : Int32)) ∧ ∃ (t : Addr) (k : ClassId), Fld Z h a1 "java/lang/String" "value" "[B" (.ref t) ∧ Arv Z h t k .byte (0 : Int32) [] (.int (0 : Int32))) := by
  refine ConS.enter (plainFor_of_name pn3) ?_
  intro p e s m below meth c s₁ X0 hx hZ hby hml hret hlk hown hnm e0 hS hA hsf
  have N0 := Fr.nil n0
  have hEL := hEL0 hw
  have hSt := hSt0 hw
  refine Go.cast (g' := (mkF m 0 #[.val (.ref a1), .val (.ref b)] [])) (by first | rfl | (simp [entryFrame, mkF, argsToLocals, Value.category]; done)) ?_
  refine Go.st (T' := s₁) (g' := (mkF m 1 #[.val (.ref a1), .val (.ref b)] [(.ref a1)])) (fun _ zk => XS.aloadN X0.here hx rfl (hb hby d2_0) rfl rfl zk) ?_
  refine Go.st (T' := s₁) (g' := (mkF m 2 #[.val (.ref a1), .val (.ref b)] [(.ref b), (.ref a1)])) (fun _ zk => XS.aloadN X0.here hx rfl (hb hby d2_1) rfl rfl zk) ?_
  refine Go.st (T' := s₁) (g' := (mkF m 3 #[.val (.ref a1), .val (.ref b)] [(.int (0 : Int32)), (.ref b), (.ref a1)])) (fun _ zk => XS.iconst X0.here hx rfl (hb hby d2_2) zk) ?_
  refine Go.st (T' := s₁) (g' := (mkF m 4 #[.val (.ref a1), .val (.ref b)] [(.ref b), (.int (0 : Int32)), (.ref b), (.ref a1)])) (fun _ zk => XS.aloadN X0.here hx rfl (hb hby d2_3) rfl rfl zk) ?_
  refine Go.st (T' := s₁) (g' := (mkF m 5 #[.val (.ref a1), .val (.ref b)] [(.int (0 : Int32)), (.int (0 : Int32)), (.ref b), (.ref a1)])) (fun _ zk => lenV X0 hx hZ e0 VC (g := (mkF m 4 #[.val (.ref a1), .val (.ref b)] [(.ref b), (.int (0 : Int32)), (.ref b), (.ref a1)])) rfl (rest := [(.int (0 : Int32)), (.ref b), (.ref a1)]) rfl (hb hby d2_4) zk) ?_
  refine Go.st (T' := s₁) (g' := (mkF m 6 #[.val (.ref a1), .val (.ref b)] [.null, (.int (0 : Int32)), (.int (0 : Int32)), (.ref b), (.ref a1)])) (fun _ zk => XS.aconstNull X0.here hx rfl (hb hby d2_5) zk) ?_
  refine Go.callSpS (y := (⟨"java/lang/String", "<init>", "([CIILjava/lang/Void;)V"⟩ : MethodName)) (a := a1) X0 hx hZ hown e0 hEL hA.1 hS (Nat.zero_le _) rfl (w12 hw) (w13 hw) (w7 hw) (w15 hw) (by decide) (argsL := [(.ref b), (.int (0 : Int32)), (.int (0 : Int32)), .null]) (rest := []) (W := 0) (rm_init4_0 l Z a0 hw [] a1 b kC h0 n0 Z0 E0 g0 C0 V0 VC) (allS (P := fun x => x < h0.size ∧ Safe Z EL0 s.vm h0 x) ⟨E0.lt, (hsf a1 (List.mem_of_getElem? (i := 0) rfl))⟩ all0) rfl (lenOf pd5 rfl) rfl (by rw [hml]; rfl) rfl (by show 2 * 0 + _ ≤ _; exact Nat.le_of_eq rfl) (by decide) (by decide) (by decide) (by decide) (hb hby d2_6) ?_
  intro v1 T1 h1 L1 X1 e1 q1 hS hZ hown cr1
  obtain ⟨hv1, Nf1, K1, C1, t1, k1, F1, V1⟩ := q1
  subst hv1
  have N1 := Fr.app N0 Nf1
  have ca2 := hA.trans cr1
  show Go p.tables e below _ T1 (mkF m 9 #[.val (.ref a1), .val (.ref b)] [])
  refine Go.retVS X1 hx hlk hS (Nat.le_refl _) ca2 hZ hEL hret (hb hby d2_9) (by decide) (by decide) e1 ?_
  exact ⟨rfl, N1, ((Keep.refl h0 [a1]).trans K1 (allS (P := fun x => x ∈ [a1] ∨ h0.size ≤ x) (Or.inl (List.mem_of_getElem? (i := 0) rfl)) all0)), C1, t1, _, F1, V1⟩
theorem d10_0 : decode jdk_52_method_21_code 0 = .ok (.iconst 0, 1) := by decide +kernel
theorem d10_1 : decode jdk_52_method_21_code 1 = .ok (.istore 5, 2) := by decide +kernel
theorem d10_3 : decode jdk_52_method_21_code 3 = .ok (.iload 5, 2) := by decide +kernel
theorem d10_5 : decode jdk_52_method_21_code 5 = .ok (.iload 4, 2) := by decide +kernel
theorem d10_7 : decode jdk_52_method_21_code 7 = .ok (.if_icmp .ge 37, 3) := by decide +kernel
theorem d10_10 : decode jdk_52_method_21_code 10 = .ok (.aload_n 0, 1) := by decide +kernel
theorem d10_11 : decode jdk_52_method_21_code 11 = .ok (.iload_n 1, 1) := by decide +kernel
theorem d10_12 : decode jdk_52_method_21_code 12 = .ok (.caload, 1) := by decide +kernel
theorem d10_13 : decode jdk_52_method_21_code 13 = .ok (.istore 6, 2) := by decide +kernel
theorem d10_15 : decode jdk_52_method_21_code 15 = .ok (.iload 6, 2) := by decide +kernel
theorem d10_17 : decode jdk_52_method_21_code 17 = .ok (.sipush 255, 3) := by decide +kernel
theorem d10_20 : decode jdk_52_method_21_code 20 = .ok (.if_icmp .le 6, 3) := by decide +kernel
theorem d10_26 : decode jdk_52_method_21_code 26 = .ok (.aload_n 2, 1) := by decide +kernel
theorem d10_27 : decode jdk_52_method_21_code 27 = .ok (.iload_n 3, 1) := by decide +kernel
theorem d10_28 : decode jdk_52_method_21_code 28 = .ok (.iload 6, 2) := by decide +kernel
theorem d10_30 : decode jdk_52_method_21_code 30 = .ok (.i2b, 1) := by decide +kernel
theorem d10_31 : decode jdk_52_method_21_code 31 = .ok (.bastore, 1) := by decide +kernel
theorem d10_32 : decode jdk_52_method_21_code 32 = .ok (.iinc 1 1, 3) := by decide +kernel
theorem d10_35 : decode jdk_52_method_21_code 35 = .ok (.iinc 3 1, 3) := by decide +kernel
theorem d10_38 : decode jdk_52_method_21_code 38 = .ok (.iinc 5 1, 3) := by decide +kernel
theorem d10_41 : decode jdk_52_method_21_code 41 = .ok (.goto (-38), 3) := by decide +kernel
theorem d10_44 : decode jdk_52_method_21_code 44 = .ok (.iload 4, 2) := by decide +kernel
theorem d10_46 : decode jdk_52_method_21_code 46 = .ok (.ireturn, 1) := by decide +kernel
def rr_cmp5_1 : Room := { frames := 0, cells := 0, slots := 0, locals := 0 }
theorem pn6 : plainName "java/lang/StringUTF16" = true := by first | (simp [plainName, overriddenIn]; done) | decide +kernel
set_option maxRecDepth 65536 in
set_option maxHeartbeats 40000000 in
theorem rm_cmp5_1 (l : Launch) (Z : State) (a0 : Array Value) (hw : ∀ d ∈ tables_1, d.before a0 Z = true) (ws : List Jvm.Cond) (b d : Addr) (kC kB : ClassId) (c0 : Int32) (h0 : Heap) (n0 : Nat) (Z0 : n0 ≤ h0.size) (VC : Arv Z h0 b kC .char (1 : Int32) [(.int c0)] (.int (0 : Int32))) (VB : Arv Z h0 d kB .byte (1 : Int32) [(.int (0 : Int32))] (.int (0 : Int32))) (hbd : b ≠ d) (gd : n0 ≤ d) (p0 : ¬ (255 : Int32) < c0) :
    Con l Z (⟨"java/lang/StringUTF16", "compress", "([CI[BII)I"⟩ : MethodName) jdk_52_method_21_code 7 (some .int) ws rr_cmp5_1 #[(.ref b), (.int (0 : Int32)), (.ref d), (.int (0 : Int32)), (.int (1 : Int32))] h0 (fun v h L => v = some (.int (1 : Int32)) ∧ Fr n0 L ∧ Keep h0 h [d] ∧ Arv Z h d kB .byte (1 : Int32) [(.int (c0.toInt8.toInt32))] (.int (0 : Int32))) := by
  refine Con.enter (plainFor_of_name pn6) ?_
  intro p e s m below meth c s₁ X0 hx hZ hby hml hret hlk hown hnm e0
  have N0 := Fr.nil n0
  refine Go.cast (g' := (mkF m 0 #[.val (.ref b), .val (.int (0 : Int32)), .val (.ref d), .val (.int (0 : Int32)), .val (.int (1 : Int32)), .unset, .unset] [])) (by first | rfl | (simp [entryFrame, mkF, argsToLocals, Value.category]; done)) ?_
  refine Go.st (T' := s₁) (g' := (mkF m 1 #[.val (.ref b), .val (.int (0 : Int32)), .val (.ref d), .val (.int (0 : Int32)), .val (.int (1 : Int32)), .unset, .unset] [(.int (0 : Int32))])) (fun _ zk => XS.iconst X0.here hx rfl (hb hby d10_0) zk) ?_
  refine Go.st (T' := s₁) (g' := (mkF m 3 #[.val (.ref b), .val (.int (0 : Int32)), .val (.ref d), .val (.int (0 : Int32)), .val (.int (1 : Int32)), .val (.int (0 : Int32)), .unset] [])) (fun _ zk => XS.istore X0.here hx rfl (hb hby d10_1) rfl (l' := #[.val (.ref b), .val (.int (0 : Int32)), .val (.ref d), .val (.int (0 : Int32)), .val (.int (1 : Int32)), .val (.int (0 : Int32)), .unset]) rfl zk) ?_
  refine Go.st (T' := s₁) (g' := (mkF m 5 #[.val (.ref b), .val (.int (0 : Int32)), .val (.ref d), .val (.int (0 : Int32)), .val (.int (1 : Int32)), .val (.int (0 : Int32)), .unset] [(.int (0 : Int32))])) (fun _ zk => XS.iload X0.here hx rfl (hb hby d10_3) rfl zk) ?_
  refine Go.st (T' := s₁) (g' := (mkF m 7 #[.val (.ref b), .val (.int (0 : Int32)), .val (.ref d), .val (.int (0 : Int32)), .val (.int (1 : Int32)), .val (.int (0 : Int32)), .unset] [(.int (1 : Int32)), (.int (0 : Int32))])) (fun _ zk => XS.iload X0.here hx rfl (hb hby d10_5) rfl zk) ?_
  refine Go.st (T' := s₁) (g' := (mkF m 10 #[.val (.ref b), .val (.int (0 : Int32)), .val (.ref d), .val (.int (0 : Int32)), .val (.int (1 : Int32)), .val (.int (0 : Int32)), .unset] [])) (fun _ zk => XS.icmpNo X0.here hx rfl (hb hby d10_7) rfl (tlt ((by decide) : (0 : Int32) < (1 : Int32))).2.1 zk) ?_
  refine Go.st (T' := s₁) (g' := (mkF m 11 #[.val (.ref b), .val (.int (0 : Int32)), .val (.ref d), .val (.int (0 : Int32)), .val (.int (1 : Int32)), .val (.int (0 : Int32)), .unset] [(.ref b)])) (fun _ zk => XS.aloadN X0.here hx rfl (hb hby d10_10) rfl rfl zk) ?_
  refine Go.st (T' := s₁) (g' := (mkF m 12 #[.val (.ref b), .val (.int (0 : Int32)), .val (.ref d), .val (.int (0 : Int32)), .val (.int (1 : Int32)), .val (.int (0 : Int32)), .unset] [(.int (0 : Int32)), (.ref b)])) (fun _ zk => XS.iloadN X0.here hx rfl (hb hby d10_11) rfl zk) ?_
  refine Go.st (T' := s₁) (g' := (mkF m 13 #[.val (.ref b), .val (.int (0 : Int32)), .val (.ref d), .val (.int (0 : Int32)), .val (.int (1 : Int32)), .val (.int (0 : Int32)), .unset] [(.int c0)])) (fun _ zk => ldCV X0 hx hZ e0 VC (j := (0 : Int32)) ⟨by decide, by decide⟩ (v := (.int c0)) rfl (g := (mkF m 12 #[.val (.ref b), .val (.int (0 : Int32)), .val (.ref d), .val (.int (0 : Int32)), .val (.int (1 : Int32)), .val (.int (0 : Int32)), .unset] [(.int (0 : Int32)), (.ref b)])) rfl (rest := []) rfl (hb hby d10_12) zk) ?_
  refine Go.st (T' := s₁) (g' := (mkF m 15 #[.val (.ref b), .val (.int (0 : Int32)), .val (.ref d), .val (.int (0 : Int32)), .val (.int (1 : Int32)), .val (.int (0 : Int32)), .val (.int c0)] [])) (fun _ zk => XS.istore X0.here hx rfl (hb hby d10_13) rfl (l' := #[.val (.ref b), .val (.int (0 : Int32)), .val (.ref d), .val (.int (0 : Int32)), .val (.int (1 : Int32)), .val (.int (0 : Int32)), .val (.int c0)]) rfl zk) ?_
  refine Go.st (T' := s₁) (g' := (mkF m 17 #[.val (.ref b), .val (.int (0 : Int32)), .val (.ref d), .val (.int (0 : Int32)), .val (.int (1 : Int32)), .val (.int (0 : Int32)), .val (.int c0)] [(.int c0)])) (fun _ zk => XS.iload X0.here hx rfl (hb hby d10_15) rfl zk) ?_
  refine Go.st (T' := s₁) (g' := (mkF m 20 #[.val (.ref b), .val (.int (0 : Int32)), .val (.ref d), .val (.int (0 : Int32)), .val (.int (1 : Int32)), .val (.int (0 : Int32)), .val (.int c0)] [(.int (255 : Int32)), (.int c0)])) (fun _ zk => XS.sipush X0.here hx rfl (hb hby d10_17) zk) ?_
  refine Go.st (T' := s₁) (g' := (mkF m 26 #[.val (.ref b), .val (.int (0 : Int32)), .val (.ref d), .val (.int (0 : Int32)), .val (.int (1 : Int32)), .val (.int (0 : Int32)), .val (.int c0)] [])) (fun _ zk => XS.icmpYes X0.here hx rfl (pc0 := 20) (pc' := 26) rfl (hb hby d10_20) rfl (flt (p0 : ¬ ((255 : Int32) < c0))).2.2.2 (by decide) (by decide) zk) ?_
  refine Go.st (T' := s₁) (g' := (mkF m 27 #[.val (.ref b), .val (.int (0 : Int32)), .val (.ref d), .val (.int (0 : Int32)), .val (.int (1 : Int32)), .val (.int (0 : Int32)), .val (.int c0)] [(.ref d)])) (fun _ zk => XS.aloadN X0.here hx rfl (hb hby d10_26) rfl rfl zk) ?_
  refine Go.st (T' := s₁) (g' := (mkF m 28 #[.val (.ref b), .val (.int (0 : Int32)), .val (.ref d), .val (.int (0 : Int32)), .val (.int (1 : Int32)), .val (.int (0 : Int32)), .val (.int c0)] [(.int (0 : Int32)), (.ref d)])) (fun _ zk => XS.iloadN X0.here hx rfl (hb hby d10_27) rfl zk) ?_
  refine Go.st (T' := s₁) (g' := (mkF m 30 #[.val (.ref b), .val (.int (0 : Int32)), .val (.ref d), .val (.int (0 : Int32)), .val (.int (1 : Int32)), .val (.int (0 : Int32)), .val (.int c0)] [(.int c0), (.int (0 : Int32)), (.ref d)])) (fun _ zk => XS.iload X0.here hx rfl (hb hby d10_28) rfl zk) ?_
  refine Go.st (T' := s₁) (g' := (mkF m 31 #[.val (.ref b), .val (.int (0 : Int32)), .val (.ref d), .val (.int (0 : Int32)), .val (.int (1 : Int32)), .val (.int (0 : Int32)), .val (.int c0)] [(.int (c0.toInt8.toInt32)), (.int (0 : Int32)), (.ref d)])) (fun _ zk => XS.i2b X0.here hx rfl (hb hby d10_30) rfl zk) ?_
  obtain ⟨T1, h1, X1, e1, W1, V1, st1⟩ := stBV X0 hx hZ e0 VB (j := (0 : Int32)) (i := 0) (by decide) rfl (Nat.le_of_ble_eq_true rfl) (g := (mkF m 31 #[.val (.ref b), .val (.int (0 : Int32)), .val (.ref d), .val (.int (0 : Int32)), .val (.int (1 : Int32)), .val (.int (0 : Int32)), .val (.int c0)] [(.int (c0.toInt8.toInt32)), (.int (0 : Int32)), (.ref d)])) rfl rfl (hb hby d10_31)
  rw [nar_b] at V1
  have V1' : Arv Z h1 d kB .byte (1 : Int32) [(.int (c0.toInt8.toInt32))] (.int (0 : Int32)) := V1
  have N1 := Fr.snoc X1 N0 gd
  refine Go.st (T' := T1) (g' := (mkF m 32 #[.val (.ref b), .val (.int (0 : Int32)), .val (.ref d), .val (.int (0 : Int32)), .val (.int (1 : Int32)), .val (.int (0 : Int32)), .val (.int c0)] [])) (fun _ zk => st1 _ zk) ?_
  refine Go.st (T' := T1) (g' := (mkF m 35 #[.val (.ref b), .val (.int ((0 : Int32) + (1 : Int32))), .val (.ref d), .val (.int (0 : Int32)), .val (.int (1 : Int32)), .val (.int (0 : Int32)), .val (.int c0)] [])) (fun _ zk => XS.iinc X1.here hx rfl (hb hby d10_32) rfl (l' := #[.val (.ref b), .val (.int ((0 : Int32) + (1 : Int32))), .val (.ref d), .val (.int (0 : Int32)), .val (.int (1 : Int32)), .val (.int (0 : Int32)), .val (.int c0)]) rfl zk) ?_
  rw [show ((0 : Int32) + (1 : Int32)) = (1 : Int32) from by decide]
  refine Go.st (T' := T1) (g' := (mkF m 38 #[.val (.ref b), .val (.int (1 : Int32)), .val (.ref d), .val (.int ((0 : Int32) + (1 : Int32))), .val (.int (1 : Int32)), .val (.int (0 : Int32)), .val (.int c0)] [])) (fun _ zk => XS.iinc X1.here hx rfl (hb hby d10_35) rfl (l' := #[.val (.ref b), .val (.int (1 : Int32)), .val (.ref d), .val (.int ((0 : Int32) + (1 : Int32))), .val (.int (1 : Int32)), .val (.int (0 : Int32)), .val (.int c0)]) rfl zk) ?_
  rw [show ((0 : Int32) + (1 : Int32)) = (1 : Int32) from by decide]
  refine Go.st (T' := T1) (g' := (mkF m 41 #[.val (.ref b), .val (.int (1 : Int32)), .val (.ref d), .val (.int (1 : Int32)), .val (.int (1 : Int32)), .val (.int ((0 : Int32) + (1 : Int32))), .val (.int c0)] [])) (fun _ zk => XS.iinc X1.here hx rfl (hb hby d10_38) rfl (l' := #[.val (.ref b), .val (.int (1 : Int32)), .val (.ref d), .val (.int (1 : Int32)), .val (.int (1 : Int32)), .val (.int ((0 : Int32) + (1 : Int32))), .val (.int c0)]) rfl zk) ?_
  rw [show ((0 : Int32) + (1 : Int32)) = (1 : Int32) from by decide]
  refine Go.st (T' := T1) (g' := (mkF m 3 #[.val (.ref b), .val (.int (1 : Int32)), .val (.ref d), .val (.int (1 : Int32)), .val (.int (1 : Int32)), .val (.int (1 : Int32)), .val (.int c0)] [])) (fun _ zk => XS.goto X1.here hx rfl (pc0 := 41) (pc' := 3) rfl (hb hby d10_41) (by decide) (by decide) zk) ?_
  refine Go.st (T' := T1) (g' := (mkF m 5 #[.val (.ref b), .val (.int (1 : Int32)), .val (.ref d), .val (.int (1 : Int32)), .val (.int (1 : Int32)), .val (.int (1 : Int32)), .val (.int c0)] [(.int (1 : Int32))])) (fun _ zk => XS.iload X1.here hx rfl (hb hby d10_3) rfl zk) ?_
  refine Go.st (T' := T1) (g' := (mkF m 7 #[.val (.ref b), .val (.int (1 : Int32)), .val (.ref d), .val (.int (1 : Int32)), .val (.int (1 : Int32)), .val (.int (1 : Int32)), .val (.int c0)] [(.int (1 : Int32)), (.int (1 : Int32))])) (fun _ zk => XS.iload X1.here hx rfl (hb hby d10_5) rfl zk) ?_
  refine Go.st (T' := T1) (g' := (mkF m 44 #[.val (.ref b), .val (.int (1 : Int32)), .val (.ref d), .val (.int (1 : Int32)), .val (.int (1 : Int32)), .val (.int (1 : Int32)), .val (.int c0)] [])) (fun _ zk => XS.icmpYes X1.here hx rfl (pc0 := 7) (pc' := 44) rfl (hb hby d10_7) rfl (flt ((by decide) : ¬ ((1 : Int32) < (1 : Int32)))).2.1 (by decide) (by decide) zk) ?_
  refine Go.st (T' := T1) (g' := (mkF m 46 #[.val (.ref b), .val (.int (1 : Int32)), .val (.ref d), .val (.int (1 : Int32)), .val (.int (1 : Int32)), .val (.int (1 : Int32)), .val (.int c0)] [(.int (1 : Int32))])) (fun _ zk => XS.iload X1.here hx rfl (hb hby d10_44) rfl zk) ?_
  refine Go.retN X1 hx hlk hret rfl (by simp) (hb hby d10_46) (by decide) (by decide) e1 ?_
  exact ⟨rfl, N1, ((Keep.refl h0 [d]).wr W1 (Or.inl (List.mem_of_getElem? (i := 0) rfl))), V1'⟩
theorem d9_0 : decode jdk_52_method_16_code 0 = .ok (.iload_n 2, 1) := by decide +kernel
theorem d9_1 : decode jdk_52_method_16_code 1 = .ok (.newarray .byte, 2) := by decide +kernel
theorem w20 {a0 : Array Value} {Z : State} (hw : ∀ d ∈ tables_1, d.before a0 Z = true) : ((Jvm.Cond.arrayClass Jvm.ClassFile.FieldType.byte)).before a0 Z = true := hw _ (List.mem_of_getElem? (i := 20) rfl)
theorem d9_3 : decode jdk_52_method_16_code 3 = .ok (.astore_n 3, 1) := by decide +kernel
theorem d9_4 : decode jdk_52_method_16_code 4 = .ok (.aload_n 0, 1) := by decide +kernel
theorem d9_5 : decode jdk_52_method_16_code 5 = .ok (.iload_n 1, 1) := by decide +kernel
theorem d9_6 : decode jdk_52_method_16_code 6 = .ok (.aload_n 3, 1) := by decide +kernel
theorem d9_7 : decode jdk_52_method_16_code 7 = .ok (.iconst 0, 1) := by decide +kernel
theorem d9_8 : decode jdk_52_method_16_code 8 = .ok (.iload_n 2, 1) := by decide +kernel
theorem w60 {a0 : Array Value} {Z : State} (hw : ∀ d ∈ tables_1, d.before a0 Z = true) : ((Jvm.Cond.code ({ cls := "java/lang/StringUTF16", name := "compress", desc := "([CI[BII)I" } : Jvm.MethodName) jdk_52_method_21_code (7 : Nat) (Option.some Jvm.ClassFile.FieldType.int))).before a0 Z = true := hw _ (List.mem_of_getElem? (i := 60) rfl)
theorem w56 {a0 : Array Value} {Z : State} (hw : ∀ d ∈ tables_1, d.before a0 Z = true) : ((Jvm.Cond.initialized "java/lang/StringUTF16")).before a0 Z = true := hw _ (List.mem_of_getElem? (i := 56) rfl)
theorem pd7 : parseMethodDescriptor "([CI[BII)I" = some ⟨[(.array .char), .int, (.array .byte), .int, .int], some .int⟩ := by decide +kernel
theorem d9_9 : decode jdk_52_method_16_code 9 = .ok (.invokestatic 115, 3) := by decide +kernel
theorem w58 {a0 : Array Value} {Z : State} (hw : ∀ d ∈ tables_1, d.before a0 Z = true) : ((Jvm.Cond.methodLink "java/lang/StringUTF16" (115 : Nat) ({ cls := "java/lang/StringUTF16", name := "compress", desc := "([CI[BII)I" } : Jvm.MethodName))).before a0 Z = true := hw _ (List.mem_of_getElem? (i := 58) rfl)
theorem w59 {a0 : Array Value} {Z : State} (hw : ∀ d ∈ tables_1, d.before a0 Z = true) : ((Jvm.Cond.static ({ cls := "java/lang/StringUTF16", name := "compress", desc := "([CI[BII)I" } : Jvm.MethodName))).before a0 Z = true := hw _ (List.mem_of_getElem? (i := 59) rfl)
theorem d9_12 : decode jdk_52_method_16_code 12 = .ok (.istore 4, 2) := by decide +kernel
theorem d9_14 : decode jdk_52_method_16_code 14 = .ok (.iload 4, 2) := by decide +kernel
theorem d9_16 : decode jdk_52_method_16_code 16 = .ok (.iload_n 2, 1) := by decide +kernel
theorem d9_17 : decode jdk_52_method_16_code 17 = .ok (.if_icmp .eq 40, 3) := by decide +kernel
theorem d9_57 : decode jdk_52_method_16_code 57 = .ok (.aload_n 3, 1) := by decide +kernel
theorem d9_58 : decode jdk_52_method_16_code 58 = .ok (.areturn, 1) := by decide +kernel
def rr_cmp3_1 : Room := { frames := 1, cells := 1, slots := 1, locals := 18 }
set_option maxRecDepth 65536 in
set_option maxHeartbeats 40000000 in
theorem rm_cmp3_1 (l : Launch) (Z : State) (a0 : Array Value) (hw : ∀ d ∈ tables_1, d.before a0 Z = true) (ws : List Jvm.Cond) (b : Addr) (kC : ClassId) (c0 : Int32) (h0 : Heap) (n0 : Nat) (Z0 : n0 ≤ h0.size) (VC : Arv Z h0 b kC .char (1 : Int32) [(.int c0)] (.int (0 : Int32))) (p0 : ¬ (255 : Int32) < c0) :
    Con l Z (⟨"java/lang/StringUTF16", "compress", "([CII)[B"⟩ : MethodName) jdk_52_method_16_code 6 (some (.array .byte)) ws rr_cmp3_1 #[(.ref b), (.int (0 : Int32)), (.int (1 : Int32))] h0 (fun v h L => ∃ (t : Addr) (k : ClassId), v = some (.ref t) ∧ Fr n0 L ∧ Ext h0 h ∧ h0.size ≤ t ∧ Arv Z h t k .byte (1 : Int32) [(.int (c0.toInt8.toInt32))] (.int (0 : Int32))) := by
  refine Con.enter (plainFor_of_name pn6) ?_
  intro p e s m below meth c s₁ X0 hx hZ hby hml hret hlk hown hnm e0
  have N0 := Fr.nil n0
  refine Go.cast (g' := (mkF m 0 #[.val (.ref b), .val (.int (0 : Int32)), .val (.int (1 : Int32)), .unset, .unset, .unset] [])) (by first | rfl | (simp [entryFrame, mkF, argsToLocals, Value.category]; done)) ?_
  refine Go.st (T' := s₁) (g' := (mkF m 1 #[.val (.ref b), .val (.int (0 : Int32)), .val (.int (1 : Int32)), .unset, .unset, .unset] [(.int (1 : Int32))])) (fun _ zk => XS.iloadN X0.here hx rfl (hb hby d9_0) rfl zk) ?_
  obtain ⟨T1, h1, k1, X1, e1, E1, A1, st1⟩ := newP (aty := .byte) X0 hx hZ (w20 hw) e0 (g := (mkF m 1 #[.val (.ref b), .val (.int (0 : Int32)), .val (.int (1 : Int32)), .unset, .unset, .unset] [(.int (1 : Int32))])) rfl (hb hby d9_1) rfl (by decide) (cap := 1) (by decide) (by decide) (by decide) (by decide)
  obtain ⟨b1, g1⟩ : ∃ z, z = h0.size := ⟨_, rfl⟩
  rw [← g1] at A1 st1
  have V1 : Arv Z h1 b1 k1 .byte (1 : Int32) [(.int (0 : Int32))] (.int (0 : Int32)) := (Arv.new A1 (by decide)).pad (pad_rep [] (.int (0 : Int32)) 1)
  refine Go.st (T' := T1) (g' := (mkF m 3 #[.val (.ref b), .val (.int (0 : Int32)), .val (.int (1 : Int32)), .unset, .unset, .unset] [(.ref b1)])) (fun _ zk => st1 _ zk) ?_
  refine Go.st (T' := T1) (g' := (mkF m 4 #[.val (.ref b), .val (.int (0 : Int32)), .val (.int (1 : Int32)), .val (.ref b1), .unset, .unset] [])) (fun _ zk => XS.astoreN X1.here hx rfl (hb hby d9_3) rfl rfl (l' := #[.val (.ref b), .val (.int (0 : Int32)), .val (.int (1 : Int32)), .val (.ref b1), .unset, .unset]) rfl zk) ?_
  refine Go.st (T' := T1) (g' := (mkF m 5 #[.val (.ref b), .val (.int (0 : Int32)), .val (.int (1 : Int32)), .val (.ref b1), .unset, .unset] [(.ref b)])) (fun _ zk => XS.aloadN X1.here hx rfl (hb hby d9_4) rfl rfl zk) ?_
  refine Go.st (T' := T1) (g' := (mkF m 6 #[.val (.ref b), .val (.int (0 : Int32)), .val (.int (1 : Int32)), .val (.ref b1), .unset, .unset] [(.int (0 : Int32)), (.ref b)])) (fun _ zk => XS.iloadN X1.here hx rfl (hb hby d9_5) rfl zk) ?_
  refine Go.st (T' := T1) (g' := (mkF m 7 #[.val (.ref b), .val (.int (0 : Int32)), .val (.int (1 : Int32)), .val (.ref b1), .unset, .unset] [(.ref b1), (.int (0 : Int32)), (.ref b)])) (fun _ zk => XS.aloadN X1.here hx rfl (hb hby d9_6) rfl rfl zk) ?_
  refine Go.st (T' := T1) (g' := (mkF m 8 #[.val (.ref b), .val (.int (0 : Int32)), .val (.int (1 : Int32)), .val (.ref b1), .unset, .unset] [(.int (0 : Int32)), (.ref b1), (.int (0 : Int32)), (.ref b)])) (fun _ zk => XS.iconst X1.here hx rfl (hb hby d9_7) zk) ?_
  refine Go.st (T' := T1) (g' := (mkF m 9 #[.val (.ref b), .val (.int (0 : Int32)), .val (.int (1 : Int32)), .val (.ref b1), .unset, .unset] [(.int (1 : Int32)), (.int (0 : Int32)), (.ref b1), (.int (0 : Int32)), (.ref b)])) (fun _ zk => XS.iloadN X1.here hx rfl (hb hby d9_8) rfl zk) ?_
  have x2 : Ext h0 h1 := E1
  have f3 := VC.ext x2
  refine Go.callSt (y := (⟨"java/lang/StringUTF16", "compress", "([CI[BII)I"⟩ : MethodName)) X1 hx hZ hown e1 (w58 hw) (w59 hw) (w56 hw) (w60 hw) (by decide) (argsL := [(.ref b), (.int (0 : Int32)), (.ref b1), (.int (0 : Int32)), (.int (1 : Int32))]) (rest := []) (W := 0) (rm_cmp5_1 l Z a0 hw [] b b1 kC k1 c0 h1 n0 (Nat.le_trans Z0 E1.1) f3 V1 (ne_lt VC.lt (Nat.le_refl _) (Nat.le_of_eq g1.symm)) (Nat.le_trans Z0 (Nat.le_trans (Nat.le_refl _) (Nat.le_of_eq g1.symm))) p0) rfl (lenOf pd7 rfl) rfl (by rw [hml]; rfl) rfl (by show 2 * 0 + _ ≤ _; exact Nat.le_of_eq rfl) (by decide) (by decide) (by decide) (by decide) (hb hby d9_9) ?_
  intro v4 T4 h4 L4 X4 e4 q4
  obtain ⟨hv4, Nf4, K4, V4⟩ := q4
  subst hv4
  have N4 := Fr.app N0 Nf4
  show Go p.tables e below _ T4 (mkF m 12 #[.val (.ref b), .val (.int (0 : Int32)), .val (.int (1 : Int32)), .val (.ref b1), .unset, .unset] [(.int (1 : Int32))])
  refine Go.st (T' := T4) (g' := (mkF m 14 #[.val (.ref b), .val (.int (0 : Int32)), .val (.int (1 : Int32)), .val (.ref b1), .val (.int (1 : Int32)), .unset] [])) (fun _ zk => XS.istore X4.here hx rfl (hb hby d9_12) rfl (l' := #[.val (.ref b), .val (.int (0 : Int32)), .val (.int (1 : Int32)), .val (.ref b1), .val (.int (1 : Int32)), .unset]) rfl zk) ?_
  refine Go.st (T' := T4) (g' := (mkF m 16 #[.val (.ref b), .val (.int (0 : Int32)), .val (.int (1 : Int32)), .val (.ref b1), .val (.int (1 : Int32)), .unset] [(.int (1 : Int32))])) (fun _ zk => XS.iload X4.here hx rfl (hb hby d9_14) rfl zk) ?_
  refine Go.st (T' := T4) (g' := (mkF m 17 #[.val (.ref b), .val (.int (0 : Int32)), .val (.int (1 : Int32)), .val (.ref b1), .val (.int (1 : Int32)), .unset] [(.int (1 : Int32)), (.int (1 : Int32))])) (fun _ zk => XS.iloadN X4.here hx rfl (hb hby d9_16) rfl zk) ?_
  refine Go.st (T' := T4) (g' := (mkF m 57 #[.val (.ref b), .val (.int (0 : Int32)), .val (.int (1 : Int32)), .val (.ref b1), .val (.int (1 : Int32)), .unset] [])) (fun _ zk => XS.icmpYes X4.here hx rfl (pc0 := 17) (pc' := 57) rfl (hb hby d9_17) rfl (teq (rfl : (1 : Int32) = (1 : Int32))).1 (by decide) (by decide) zk) ?_
  refine Go.st (T' := T4) (g' := (mkF m 58 #[.val (.ref b), .val (.int (0 : Int32)), .val (.int (1 : Int32)), .val (.ref b1), .val (.int (1 : Int32)), .unset] [(.ref b1)])) (fun _ zk => XS.aloadN X4.here hx rfl (hb hby d9_57) rfl rfl zk) ?_
  have x5 : Ext h0 h4 := (x2.thenK K4 (allS (P := fun x => h0.size ≤ x) (Nat.le_of_eq g1.symm) all0))
  refine Go.retA X4 hx hlk hret rfl rfl (hb hby d9_58) (by decide) (by decide) e4 ?_
  exact ⟨_, _, rfl, N4, x5, (Nat.le_trans (Nat.le_refl _) (Nat.le_of_eq g1.symm)), V4⟩
theorem d11_0 : decode jdk_52_method_15_code 0 = .ok (.iload_n 1, 1) := by decide +kernel
theorem d11_1 : decode jdk_52_method_15_code 1 = .ok (.aload_n 0, 1) := by decide +kernel
theorem d11_2 : decode jdk_52_method_15_code 2 = .ok (.arraylength, 1) := by decide +kernel
theorem d11_3 : decode jdk_52_method_15_code 3 = .ok (.isub, 1) := by decide +kernel
theorem d11_4 : decode jdk_52_method_15_code 4 = .ok (.bipush 31, 2) := by decide +kernel
theorem d11_6 : decode jdk_52_method_15_code 6 = .ok (.iushr, 1) := by decide +kernel
theorem d11_7 : decode jdk_52_method_15_code 7 = .ok (.i2b, 1) := by decide +kernel
theorem d11_8 : decode jdk_52_method_15_code 8 = .ok (.ireturn, 1) := by decide +kernel
def rr_codl_1 : Room := { frames := 0, cells := 0, slots := 0, locals := 0 }
set_option maxRecDepth 65536 in
set_option maxHeartbeats 40000000 in
theorem rm_codl_1 (l : Launch) (Z : State) (a0 : Array Value) (hw : ∀ d ∈ tables_1, d.before a0 Z = true) (ws : List Jvm.Cond) (t : Addr) (k : ClassId) (x0 : Int32) (h0 : Heap) (n0 : Nat) (Z0 : n0 ≤ h0.size) (VB : Arv Z h0 t k .byte (1 : Int32) [(.int x0)] (.int (0 : Int32))) :
    Con l Z (⟨"java/lang/StringUTF16", "coderFromArrayLen", "([BI)B"⟩ : MethodName) jdk_52_method_15_code 2 (some .byte) ws rr_codl_1 #[(.ref t), (.int (1 : Int32))] h0 (fun v h L => v = some (.int 0) ∧ Fr n0 L ∧ h = h0) := by
  refine Con.enter (plainFor_of_name pn6) ?_
  intro p e s m below meth c s₁ X0 hx hZ hby hml hret hlk hown hnm e0
  have N0 := Fr.nil n0
  refine Go.cast (g' := (mkF m 0 #[.val (.ref t), .val (.int (1 : Int32))] [])) (by first | rfl | (simp [entryFrame, mkF, argsToLocals, Value.category]; done)) ?_
  refine Go.st (T' := s₁) (g' := (mkF m 1 #[.val (.ref t), .val (.int (1 : Int32))] [(.int (1 : Int32))])) (fun _ zk => XS.iloadN X0.here hx rfl (hb hby d11_0) rfl zk) ?_
  refine Go.st (T' := s₁) (g' := (mkF m 2 #[.val (.ref t), .val (.int (1 : Int32))] [(.ref t), (.int (1 : Int32))])) (fun _ zk => XS.aloadN X0.here hx rfl (hb hby d11_1) rfl rfl zk) ?_
  refine Go.st (T' := s₁) (g' := (mkF m 3 #[.val (.ref t), .val (.int (1 : Int32))] [(.int (1 : Int32)), (.int (1 : Int32))])) (fun _ zk => lenV X0 hx hZ e0 VB (g := (mkF m 2 #[.val (.ref t), .val (.int (1 : Int32))] [(.ref t), (.int (1 : Int32))])) rfl (rest := [(.int (1 : Int32))]) rfl (hb hby d11_2) zk) ?_
  refine Go.st (T' := s₁) (g' := (mkF m 4 #[.val (.ref t), .val (.int (1 : Int32))] [(.int ((1 : Int32) - (1 : Int32)))])) (fun _ zk => XS.isub X0.here hx rfl (hb hby d11_3) rfl zk) ?_
  rw [show ((1 : Int32) - (1 : Int32)) = (0 : Int32) from by decide]
  refine Go.st (T' := s₁) (g' := (mkF m 6 #[.val (.ref t), .val (.int (1 : Int32))] [(.int (31 : Int32)), (.int (0 : Int32))])) (fun _ zk => XS.bipush X0.here hx rfl (hb hby d11_4) zk) ?_
  refine Go.st (T' := s₁) (g' := (mkF m 7 #[.val (.ref t), .val (.int (1 : Int32))] [(.int (((0 : Int32).toUInt32 >>> ((31 : Int32) &&& 31).toUInt32).toInt32))])) (fun _ zk => XS.iushr X0.here hx rfl (hb hby d11_6) rfl zk) ?_
  rw [show (((0 : Int32).toUInt32 >>> ((31 : Int32) &&& 31).toUInt32).toInt32) = (0 : Int32) from by decide]
  refine Go.st (T' := s₁) (g' := (mkF m 8 #[.val (.ref t), .val (.int (1 : Int32))] [(.int ((0 : Int32).toInt8.toInt32))])) (fun _ zk => XS.i2b X0.here hx rfl (hb hby d11_7) rfl zk) ?_
  rw [show ((0 : Int32).toInt8.toInt32) = (0 : Int32) from by decide]
  refine Go.retN X0 hx hlk hret rfl (by simp) (hb hby d11_8) (by decide) (by decide) e0 ?_
  exact ⟨rfl, N0, rfl⟩
theorem d3_27 : decode jdk_42_method_149_code 27 = .ok (.getstatic 38, 3) := by decide +kernel
theorem w53 {a0 : Array Value} {Z : State} (hw : ∀ d ∈ tables_1, d.before a0 Z = true) : ((Jvm.Cond.fieldLink "java/lang/String" (38 : Nat) "java/lang/String" "COMPACT_STRINGS" "Z")).before a0 Z = true := hw _ (List.mem_of_getElem? (i := 53) rfl)
theorem d3_30 : decode jdk_42_method_149_code 30 = .ok (.ifCond .eq 28, 3) := by decide +kernel
theorem d3_33 : decode jdk_42_method_149_code 33 = .ok (.aload_n 1, 1) := by decide +kernel
theorem d3_34 : decode jdk_42_method_149_code 34 = .ok (.iload_n 2, 1) := by decide +kernel
theorem d3_35 : decode jdk_42_method_149_code 35 = .ok (.iload_n 3, 1) := by decide +kernel
theorem w57 {a0 : Array Value} {Z : State} (hw : ∀ d ∈ tables_1, d.before a0 Z = true) : ((Jvm.Cond.code ({ cls := "java/lang/StringUTF16", name := "compress", desc := "([CII)[B" } : Jvm.MethodName) jdk_52_method_16_code (6 : Nat) (Option.some (Jvm.ClassFile.FieldType.array Jvm.ClassFile.FieldType.byte)))).before a0 Z = true := hw _ (List.mem_of_getElem? (i := 57) rfl)
theorem pd8 : parseMethodDescriptor "([CII)[B" = some ⟨[(.array .char), .int, .int], some (.array .byte)⟩ := by decide +kernel
theorem d3_36 : decode jdk_42_method_149_code 36 = .ok (.invokestatic 177, 3) := by decide +kernel
theorem w54 {a0 : Array Value} {Z : State} (hw : ∀ d ∈ tables_1, d.before a0 Z = true) : ((Jvm.Cond.methodLink "java/lang/String" (177 : Nat) ({ cls := "java/lang/StringUTF16", name := "compress", desc := "([CII)[B" } : Jvm.MethodName))).before a0 Z = true := hw _ (List.mem_of_getElem? (i := 54) rfl)
theorem w55 {a0 : Array Value} {Z : State} (hw : ∀ d ∈ tables_1, d.before a0 Z = true) : ((Jvm.Cond.static ({ cls := "java/lang/StringUTF16", name := "compress", desc := "([CII)[B" } : Jvm.MethodName))).before a0 Z = true := hw _ (List.mem_of_getElem? (i := 55) rfl)
theorem d3_39 : decode jdk_42_method_149_code 39 = .ok (.astore 5, 2) := by decide +kernel
theorem d3_41 : decode jdk_42_method_149_code 41 = .ok (.aload_n 0, 1) := by decide +kernel
theorem d3_42 : decode jdk_42_method_149_code 42 = .ok (.aload 5, 2) := by decide +kernel
theorem d3_44 : decode jdk_42_method_149_code 44 = .ok (.iload_n 3, 1) := by decide +kernel
theorem w63 {a0 : Array Value} {Z : State} (hw : ∀ d ∈ tables_1, d.before a0 Z = true) : ((Jvm.Cond.code ({ cls := "java/lang/StringUTF16", name := "coderFromArrayLen", desc := "([BI)B" } : Jvm.MethodName) jdk_52_method_15_code (2 : Nat) (Option.some Jvm.ClassFile.FieldType.byte))).before a0 Z = true := hw _ (List.mem_of_getElem? (i := 63) rfl)
theorem pd9 : parseMethodDescriptor "([BI)B" = some ⟨[(.array .byte), .int], some .byte⟩ := by decide +kernel
theorem d3_45 : decode jdk_42_method_149_code 45 = .ok (.invokestatic 47, 3) := by decide +kernel
theorem w61 {a0 : Array Value} {Z : State} (hw : ∀ d ∈ tables_1, d.before a0 Z = true) : ((Jvm.Cond.methodLink "java/lang/String" (47 : Nat) ({ cls := "java/lang/StringUTF16", name := "coderFromArrayLen", desc := "([BI)B" } : Jvm.MethodName))).before a0 Z = true := hw _ (List.mem_of_getElem? (i := 61) rfl)
theorem w62 {a0 : Array Value} {Z : State} (hw : ∀ d ∈ tables_1, d.before a0 Z = true) : ((Jvm.Cond.static ({ cls := "java/lang/StringUTF16", name := "coderFromArrayLen", desc := "([BI)B" } : Jvm.MethodName))).before a0 Z = true := hw _ (List.mem_of_getElem? (i := 62) rfl)
theorem d3_48 : decode jdk_42_method_149_code 48 = .ok (.putfield 15, 3) := by decide +kernel
theorem d3_51 : decode jdk_42_method_149_code 51 = .ok (.aload_n 0, 1) := by decide +kernel
theorem d3_52 : decode jdk_42_method_149_code 52 = .ok (.aload 5, 2) := by decide +kernel
theorem d3_54 : decode jdk_42_method_149_code 54 = .ok (.putfield 9, 3) := by decide +kernel
theorem d3_57 : decode jdk_42_method_149_code 57 = .ok (.return_, 1) := by decide +kernel
def rr_init4_1 : Room := { frames := 2, cells := 1, slots := 1, locals := 35 }
set_option maxRecDepth 65536 in
set_option maxHeartbeats 40000000 in
theorem rm_init4_1 (l : Launch) (Z : State) (a0 : Array Value) (hw : ∀ d ∈ tables_1, d.before a0 Z = true) (ws : List Jvm.Cond) (a1 b : Addr) (kC : ClassId) (zc : Int32) (c0 : Int32) (h0 : Heap) (n0 : Nat) (Z0 : n0 ≤ h0.size) (O0 : Old Z n0 h0) (E0 : Exa Z h0 a1 "java/lang/String") (g0 : n0 ≤ a1) (C0 : Fld Z h0 a1 "java/lang/String" "coder" "B" (.int (0 : Int32))) (V0 : Fld Z h0 a1 "java/lang/String" "value" "[B" .null) (VC : Arv Z h0 b kC .char (1 : Int32) [(.int c0)] (.int (0 : Int32))) (CS : Sta Z Z.heap "java/lang/String" "COMPACT_STRINGS" "Z" (.int zc)) (hz : ¬ zc = 0) (p0 : ¬ (255 : Int32) < c0) :
    Con l Z (⟨"java/lang/String", "<init>", "([CIILjava/lang/Void;)V"⟩ : MethodName) jdk_42_method_149_code 6 none ws rr_init4_1 #[(.ref a1), (.ref b), (.int (0 : Int32)), (.int (1 : Int32)), .null] h0 (fun v h L => v = none ∧ Fr n0 L ∧ Keep h0 h [a1] ∧ Fld Z h a1 "java/lang/String" "coder" "B" (.int (0 : Int32)) ∧ ∃ (t : Addr) (k : ClassId), h0.size ≤ t ∧ Fld Z h a1 "java/lang/String" "value" "[B" (.ref t) ∧ Arv Z h t k .byte (1 : Int32) [(.int (c0.toInt8.toInt32))] (.int (0 : Int32))) := by
  refine Con.enter (plainFor_of_name pn3) ?_
  intro p e s m below meth c s₁ X0 hx hZ hby hml hret hlk hown hnm e0
  have N0 := Fr.nil n0
  refine Go.cast (g' := (mkF m 0 #[.val (.ref a1), .val (.ref b), .val (.int (0 : Int32)), .val (.int (1 : Int32)), .val .null, .unset] [])) (by first | rfl | (simp [entryFrame, mkF, argsToLocals, Value.category]; done)) ?_
  refine Go.st (T' := s₁) (g' := (mkF m 1 #[.val (.ref a1), .val (.ref b), .val (.int (0 : Int32)), .val (.int (1 : Int32)), .val .null, .unset] [(.ref a1)])) (fun _ zk => XS.aloadN X0.here hx rfl (hb hby d3_0) rfl rfl zk) ?_
  obtain ⟨T1, X1, e1, st1⟩ := initO X0 hx hZ hown (w16 hw) (w17 hw) (w18 hw) e0 (g := (mkF m 1 #[.val (.ref a1), .val (.ref b), .val (.int (0 : Int32)), .val (.int (1 : Int32)), .val .null, .unset] [(.ref a1)])) rfl (by rw [hml]; rfl) rfl (hb hby d3_1) (by decide) (W := 0) (by show 2 * 0 + _ ≤ _; exact Nat.le_of_eq rfl) (by decide)
  refine Go.st (T' := T1) (g' := (mkF m 4 #[.val (.ref a1), .val (.ref b), .val (.int (0 : Int32)), .val (.int (1 : Int32)), .val .null, .unset] [])) (fun _ zk => st1 _ zk) ?_
  refine Go.st (T' := T1) (g' := (mkF m 5 #[.val (.ref a1), .val (.ref b), .val (.int (0 : Int32)), .val (.int (1 : Int32)), .val .null, .unset] [(.int (1 : Int32))])) (fun _ zk => XS.iloadN X1.here hx rfl (hb hby d3_4) rfl zk) ?_
  refine Go.st (T' := T1) (g' := (mkF m 27 #[.val (.ref a1), .val (.ref b), .val (.int (0 : Int32)), .val (.int (1 : Int32)), .val .null, .unset] [])) (fun _ zk => XS.ifYes X1.here hx rfl (pc0 := 5) (pc' := 27) rfl (hb hby d3_5) rfl ((if0 _ _).trans (feq ((by decide) : ¬ ((1 : Int32) = (0 : Int32)))).2) (by decide) (by decide) zk) ?_
  obtain ⟨T2, X2, e2, st2⟩ := getS2 X1 hx hZ hown (host := "") (Or.inl (w53 hw)) Via.refl e1 (CS.ext O0.2) (g := (mkF m 27 #[.val (.ref a1), .val (.ref b), .val (.int (0 : Int32)), .val (.int (1 : Int32)), .val .null, .unset] [])) rfl (hb hby d3_27)
  refine Go.st (T' := T2) (g' := (mkF m 30 #[.val (.ref a1), .val (.ref b), .val (.int (0 : Int32)), .val (.int (1 : Int32)), .val .null, .unset] [(.int zc)])) (fun _ zk => st2 _ zk) ?_
  refine Go.st (T' := T2) (g' := (mkF m 33 #[.val (.ref a1), .val (.ref b), .val (.int (0 : Int32)), .val (.int (1 : Int32)), .val .null, .unset] [])) (fun _ zk => XS.ifNo X2.here hx rfl (hb hby d3_30) rfl ((if0 _ _).trans (feq (hz : ¬ (zc = (0 : Int32)))).1) zk) ?_
  refine Go.st (T' := T2) (g' := (mkF m 34 #[.val (.ref a1), .val (.ref b), .val (.int (0 : Int32)), .val (.int (1 : Int32)), .val .null, .unset] [(.ref b)])) (fun _ zk => XS.aloadN X2.here hx rfl (hb hby d3_33) rfl rfl zk) ?_
  refine Go.st (T' := T2) (g' := (mkF m 35 #[.val (.ref a1), .val (.ref b), .val (.int (0 : Int32)), .val (.int (1 : Int32)), .val .null, .unset] [(.int (0 : Int32)), (.ref b)])) (fun _ zk => XS.iloadN X2.here hx rfl (hb hby d3_34) rfl zk) ?_
  refine Go.st (T' := T2) (g' := (mkF m 36 #[.val (.ref a1), .val (.ref b), .val (.int (0 : Int32)), .val (.int (1 : Int32)), .val .null, .unset] [(.int (1 : Int32)), (.int (0 : Int32)), (.ref b)])) (fun _ zk => XS.iloadN X2.here hx rfl (hb hby d3_35) rfl zk) ?_
  refine Go.callSt (y := (⟨"java/lang/StringUTF16", "compress", "([CII)[B"⟩ : MethodName)) X2 hx hZ hown e2 (w54 hw) (w55 hw) (w56 hw) (w57 hw) (by decide) (argsL := [(.ref b), (.int (0 : Int32)), (.int (1 : Int32))]) (rest := []) (W := 0) (rm_cmp3_1 l Z a0 hw [] b kC c0 h0 n0 Z0 VC p0) rfl (lenOf pd8 rfl) rfl (by rw [hml]; rfl) rfl (by show 2 * 0 + _ ≤ _; exact Nat.le_of_eq rfl) (by decide) (by decide) (by decide) (by decide) (hb hby d3_36) ?_
  intro v3 T3 h3 L3 X3 e3 q3
  obtain ⟨t3, k3, hv3, Nf3, E3, ge3, V3⟩ := q3
  subst hv3
  have N3 := Fr.app N0 Nf3
  show Go p.tables e below _ T3 (mkF m 39 #[.val (.ref a1), .val (.ref b), .val (.int (0 : Int32)), .val (.int (1 : Int32)), .val .null, .unset] [(.ref t3)])
  refine Go.st (T' := T3) (g' := (mkF m 41 #[.val (.ref a1), .val (.ref b), .val (.int (0 : Int32)), .val (.int (1 : Int32)), .val .null, .val (.ref t3)] [])) (fun _ zk => XS.astore X3.here hx rfl (hb hby d3_39) rfl rfl (l' := #[.val (.ref a1), .val (.ref b), .val (.int (0 : Int32)), .val (.int (1 : Int32)), .val .null, .val (.ref t3)]) rfl zk) ?_
  refine Go.st (T' := T3) (g' := (mkF m 42 #[.val (.ref a1), .val (.ref b), .val (.int (0 : Int32)), .val (.int (1 : Int32)), .val .null, .val (.ref t3)] [(.ref a1)])) (fun _ zk => XS.aloadN X3.here hx rfl (hb hby d3_41) rfl rfl zk) ?_
  refine Go.st (T' := T3) (g' := (mkF m 44 #[.val (.ref a1), .val (.ref b), .val (.int (0 : Int32)), .val (.int (1 : Int32)), .val .null, .val (.ref t3)] [(.ref t3), (.ref a1)])) (fun _ zk => XS.aload X3.here hx rfl (hb hby d3_42) rfl rfl zk) ?_
  refine Go.st (T' := T3) (g' := (mkF m 45 #[.val (.ref a1), .val (.ref b), .val (.int (0 : Int32)), .val (.int (1 : Int32)), .val .null, .val (.ref t3)] [(.int (1 : Int32)), (.ref t3), (.ref a1)])) (fun _ zk => XS.iloadN X3.here hx rfl (hb hby d3_44) rfl zk) ?_
  refine Go.callSt (y := (⟨"java/lang/StringUTF16", "coderFromArrayLen", "([BI)B"⟩ : MethodName)) X3 hx hZ hown e3 (w61 hw) (w62 hw) (w56 hw) (w63 hw) (by decide) (argsL := [(.ref t3), (.int (1 : Int32))]) (rest := [(.ref a1)]) (W := 1) (rm_codl_1 l Z a0 hw [] t3 k3 (c0.toInt8.toInt32) h3 n0 (Nat.le_trans Z0 E3.1) V3) rfl (lenOf pd9 rfl) rfl (by rw [hml]; rfl) rfl (by show 2 * 0 + _ ≤ _; exact Nat.le_of_eq rfl) (by decide) (by decide) (by decide) (by decide) (hb hby d3_45) ?_
  intro v4 T4 h4 L4 X4 e4 q4
  obtain ⟨hv4, Nf4, hh4⟩ := q4
  subst hv4
  have E4 : T4.heap = h3 := e4.trans hh4
  have N4 := Fr.app N3 Nf4
  show Go p.tables e below _ T4 (mkF m 48 #[.val (.ref a1), .val (.ref b), .val (.int (0 : Int32)), .val (.int (1 : Int32)), .val .null, .val (.ref t3)] [(.int (0 : Int32)), (.ref a1)])
  have x6 : Ext h0 h3 := E3
  have f7 := C0.ext x6
  have f8 := E0.ext x6
  obtain ⟨T5, h5, X5, e5, W5, st5⟩ := putF X4 hx hZ hown (host := "") (Or.inl (w26 hw)) Via.refl E4 f7 f8 (Or.inr ⟨(w22 hw), rfl, hnm⟩) (w6 hw) (ty := .byte) (by decide) rfl rfl (g := (mkF m 48 #[.val (.ref a1), .val (.ref b), .val (.int (0 : Int32)), .val (.int (1 : Int32)), .val .null, .val (.ref t3)] [(.int (0 : Int32)), (.ref a1)])) rfl rfl (hb hby d3_48)
  have F5 := f7.same W5
  have N5 := Fr.snoc X5 N4 g0
  refine Go.st (T' := T5) (g' := (mkF m 51 #[.val (.ref a1), .val (.ref b), .val (.int (0 : Int32)), .val (.int (1 : Int32)), .val .null, .val (.ref t3)] [])) (fun _ zk => st5 _ zk) ?_
  refine Go.st (T' := T5) (g' := (mkF m 52 #[.val (.ref a1), .val (.ref b), .val (.int (0 : Int32)), .val (.int (1 : Int32)), .val .null, .val (.ref t3)] [(.ref a1)])) (fun _ zk => XS.aloadN X5.here hx rfl (hb hby d3_51) rfl rfl zk) ?_
  refine Go.st (T' := T5) (g' := (mkF m 54 #[.val (.ref a1), .val (.ref b), .val (.int (0 : Int32)), .val (.int (1 : Int32)), .val .null, .val (.ref t3)] [(.ref t3), (.ref a1)])) (fun _ zk => XS.aload X5.here hx rfl (hb hby d3_52) rfl rfl zk) ?_
  have f10 := ((V0.ext E3).other W5 (Or.inr (slot_ne (Or.inr (w21 hw)) (Or.inr (w22 hw)) (by decide) (t := (.array .byte)) (t' := .byte) (by decide) (by decide))))
  have f11 := (f8.wr W5)
  obtain ⟨T9, h9, X9, e9, W9, st9⟩ := putF X5 hx hZ hown (host := "") (Or.inl (w25 hw)) Via.refl e5 f10 f11 (Or.inr ⟨(w21 hw), rfl, hnm⟩) (w6 hw) (ty := (.array .byte)) (by decide) rfl rfl (g := (mkF m 54 #[.val (.ref a1), .val (.ref b), .val (.int (0 : Int32)), .val (.int (1 : Int32)), .val .null, .val (.ref t3)] [(.ref t3), (.ref a1)])) rfl rfl (hb hby d3_54)
  have F9 := f10.same W9
  have N9 := Fr.snoc X9 N5 g0
  refine Go.st (T' := T9) (g' := (mkF m 57 #[.val (.ref a1), .val (.ref b), .val (.int (0 : Int32)), .val (.int (1 : Int32)), .val .null, .val (.ref t3)] [])) (fun _ zk => st9 _ zk) ?_
  have f12 := (F5.other W9 (Or.inr (slot_ne (Or.inr (w22 hw)) (Or.inr (w21 hw)) (by decide) (t := .byte) (t' := (.array .byte)) (by decide) (by decide))))
  have f13 := ((V3.other W5 (Ne.symm (ne_lt E0.lt (Nat.le_refl _) ge3))).other W9 (Ne.symm (ne_lt E0.lt (Nat.le_refl _) ge3)))
  refine Go.retV X9 hx hlk hret (hb hby d3_57) (by decide) (by decide) e9 ?_
  exact ⟨rfl, N9, ((((Keep.refl h0 [a1]).ext E3).wr W5 (Or.inl (List.mem_of_getElem? (i := 0) rfl))).wr W9 (Or.inl (List.mem_of_getElem? (i := 0) rfl))), f12, t3, _, (Nat.le_trans (Nat.le_refl _) ge3), F9, f13⟩
def rr_init1_1 : Room := { frames := 3, cells := 1, slots := 1, locals := 52 }
set_option maxRecDepth 65536 in
set_option maxHeartbeats 40000000 in
theorem rm_init1_1 (l : Launch) (Z : State) (a0 : Array Value) (hw : ∀ d ∈ tables_1, d.before a0 Z = true) (ws : List Jvm.Cond) (a1 b : Addr) (kC : ClassId) (zc : Int32) (c0 : Int32) (h0 : Heap) (n0 : Nat) (Z0 : n0 ≤ h0.size) (O0 : Old Z n0 h0) (E0 : Exa Z h0 a1 "java/lang/String") (g0 : n0 ≤ a1) (C0 : Fld Z h0 a1 "java/lang/String" "coder" "B" (.int (0 : Int32))) (V0 : Fld Z h0 a1 "java/lang/String" "value" "[B" .null) (VC : Arv Z h0 b kC .char (1 : Int32) [(.int c0)] (.int (0 : Int32))) (CS : Sta Z Z.heap "java/lang/String" "COMPACT_STRINGS" "Z" (.int zc)) (hz : ¬ zc = 0) (p0 : ¬ (255 : Int32) < c0) :
    Con l Z (⟨"java/lang/String", "<init>", "([C)V"⟩ : MethodName) jdk_42_method_3_code 2 none ws rr_init1_1 #[(.ref a1), (.ref b)] h0 (fun v h L => v = none ∧ Fr n0 L ∧ Keep h0 h [a1] ∧ Fld Z h a1 "java/lang/String" "coder" "B" (.int (0 : Int32)) ∧ ∃ (t : Addr) (k : ClassId), h0.size ≤ t ∧ Fld Z h a1 "java/lang/String" "value" "[B" (.ref t) ∧ Arv Z h t k .byte (1 : Int32) [(.int (c0.toInt8.toInt32))] (.int (0 : Int32))) := by
  refine Con.enter (plainFor_of_name pn3) ?_
  intro p e s m below meth c s₁ X0 hx hZ hby hml hret hlk hown hnm e0
  have N0 := Fr.nil n0
  refine Go.cast (g' := (mkF m 0 #[.val (.ref a1), .val (.ref b)] [])) (by first | rfl | (simp [entryFrame, mkF, argsToLocals, Value.category]; done)) ?_
  refine Go.st (T' := s₁) (g' := (mkF m 1 #[.val (.ref a1), .val (.ref b)] [(.ref a1)])) (fun _ zk => XS.aloadN X0.here hx rfl (hb hby d2_0) rfl rfl zk) ?_
  refine Go.st (T' := s₁) (g' := (mkF m 2 #[.val (.ref a1), .val (.ref b)] [(.ref b), (.ref a1)])) (fun _ zk => XS.aloadN X0.here hx rfl (hb hby d2_1) rfl rfl zk) ?_
  refine Go.st (T' := s₁) (g' := (mkF m 3 #[.val (.ref a1), .val (.ref b)] [(.int (0 : Int32)), (.ref b), (.ref a1)])) (fun _ zk => XS.iconst X0.here hx rfl (hb hby d2_2) zk) ?_
  refine Go.st (T' := s₁) (g' := (mkF m 4 #[.val (.ref a1), .val (.ref b)] [(.ref b), (.int (0 : Int32)), (.ref b), (.ref a1)])) (fun _ zk => XS.aloadN X0.here hx rfl (hb hby d2_3) rfl rfl zk) ?_
  refine Go.st (T' := s₁) (g' := (mkF m 5 #[.val (.ref a1), .val (.ref b)] [(.int (1 : Int32)), (.int (0 : Int32)), (.ref b), (.ref a1)])) (fun _ zk => lenV X0 hx hZ e0 VC (g := (mkF m 4 #[.val (.ref a1), .val (.ref b)] [(.ref b), (.int (0 : Int32)), (.ref b), (.ref a1)])) rfl (rest := [(.int (0 : Int32)), (.ref b), (.ref a1)]) rfl (hb hby d2_4) zk) ?_
  refine Go.st (T' := s₁) (g' := (mkF m 6 #[.val (.ref a1), .val (.ref b)] [.null, (.int (1 : Int32)), (.int (0 : Int32)), (.ref b), (.ref a1)])) (fun _ zk => XS.aconstNull X0.here hx rfl (hb hby d2_5) zk) ?_
  refine Go.callSp (y := (⟨"java/lang/String", "<init>", "([CIILjava/lang/Void;)V"⟩ : MethodName)) (a := a1) X0 hx hZ hown e0 rfl (w12 hw) (w13 hw) (w7 hw) (w15 hw) (by decide) (argsL := [(.ref b), (.int (0 : Int32)), (.int (1 : Int32)), .null]) (rest := []) (W := 0) (rm_init4_1 l Z a0 hw [] a1 b kC zc c0 h0 n0 Z0 O0 E0 g0 C0 V0 VC CS hz p0) rfl (lenOf pd5 rfl) rfl (by rw [hml]; rfl) rfl (by show 2 * 0 + _ ≤ _; exact Nat.le_of_eq rfl) (by decide) (by decide) (by decide) (by decide) (hb hby d2_6) ?_
  intro v1 T1 h1 L1 X1 e1 q1
  obtain ⟨hv1, Nf1, K1, C1, t1, k1, ge1, F1, V1⟩ := q1
  subst hv1
  have N1 := Fr.app N0 Nf1
  show Go p.tables e below _ T1 (mkF m 9 #[.val (.ref a1), .val (.ref b)] [])
  refine Go.retV X1 hx hlk hret (hb hby d2_9) (by decide) (by decide) e1 ?_
  exact ⟨rfl, N1, ((Keep.refl h0 [a1]).trans K1 (allS (P := fun x => x ∈ [a1] ∨ h0.size ≤ x) (Or.inl (List.mem_of_getElem? (i := 0) rfl)) all0)), C1, t1, _, (Nat.le_trans (Nat.le_refl _) ge1), F1, V1⟩
def rr_cmp5_2 : Room := { frames := 0, cells := 0, slots := 0, locals := 0 }
set_option maxRecDepth 65536 in
set_option maxHeartbeats 40000000 in
theorem rm_cmp5_2 (l : Launch) (Z : State) (a0 : Array Value) (hw : ∀ d ∈ tables_1, d.before a0 Z = true) (ws : List Jvm.Cond) (b d : Addr) (kC kB : ClassId) (c0 c1 : Int32) (h0 : Heap) (n0 : Nat) (Z0 : n0 ≤ h0.size) (VC : Arv Z h0 b kC .char (2 : Int32) [(.int c0), (.int c1)] (.int (0 : Int32))) (VB : Arv Z h0 d kB .byte (2 : Int32) [(.int (0 : Int32)), (.int (0 : Int32))] (.int (0 : Int32))) (hbd : b ≠ d) (gd : n0 ≤ d) (p0 : ¬ (255 : Int32) < c0) (p1 : ¬ (255 : Int32) < c1) :
    Con l Z (⟨"java/lang/StringUTF16", "compress", "([CI[BII)I"⟩ : MethodName) jdk_52_method_21_code 7 (some .int) ws rr_cmp5_2 #[(.ref b), (.int (0 : Int32)), (.ref d), (.int (0 : Int32)), (.int (2 : Int32))] h0 (fun v h L => v = some (.int (2 : Int32)) ∧ Fr n0 L ∧ Keep h0 h [d] ∧ Arv Z h d kB .byte (2 : Int32) [(.int (c0.toInt8.toInt32)), (.int (c1.toInt8.toInt32))] (.int (0 : Int32))) := by
  refine Con.enter (plainFor_of_name pn6) ?_
  intro p e s m below meth c s₁ X0 hx hZ hby hml hret hlk hown hnm e0
  have N0 := Fr.nil n0
  refine Go.cast (g' := (mkF m 0 #[.val (.ref b), .val (.int (0 : Int32)), .val (.ref d), .val (.int (0 : Int32)), .val (.int (2 : Int32)), .unset, .unset] [])) (by first | rfl | (simp [entryFrame, mkF, argsToLocals, Value.category]; done)) ?_
  refine Go.st (T' := s₁) (g' := (mkF m 1 #[.val (.ref b), .val (.int (0 : Int32)), .val (.ref d), .val (.int (0 : Int32)), .val (.int (2 : Int32)), .unset, .unset] [(.int (0 : Int32))])) (fun _ zk => XS.iconst X0.here hx rfl (hb hby d10_0) zk) ?_
  refine Go.st (T' := s₁) (g' := (mkF m 3 #[.val (.ref b), .val (.int (0 : Int32)), .val (.ref d), .val (.int (0 : Int32)), .val (.int (2 : Int32)), .val (.int (0 : Int32)), .unset] [])) (fun _ zk => XS.istore X0.here hx rfl (hb hby d10_1) rfl (l' := #[.val (.ref b), .val (.int (0 : Int32)), .val (.ref d), .val (.int (0 : Int32)), .val (.int (2 : Int32)), .val (.int (0 : Int32)), .unset]) rfl zk) ?_
  refine Go.st (T' := s₁) (g' := (mkF m 5 #[.val (.ref b), .val (.int (0 : Int32)), .val (.ref d), .val (.int (0 : Int32)), .val (.int (2 : Int32)), .val (.int (0 : Int32)), .unset] [(.int (0 : Int32))])) (fun _ zk => XS.iload X0.here hx rfl (hb hby d10_3) rfl zk) ?_
  refine Go.st (T' := s₁) (g' := (mkF m 7 #[.val (.ref b), .val (.int (0 : Int32)), .val (.ref d), .val (.int (0 : Int32)), .val (.int (2 : Int32)), .val (.int (0 : Int32)), .unset] [(.int (2 : Int32)), (.int (0 : Int32))])) (fun _ zk => XS.iload X0.here hx rfl (hb hby d10_5) rfl zk) ?_
  refine Go.st (T' := s₁) (g' := (mkF m 10 #[.val (.ref b), .val (.int (0 : Int32)), .val (.ref d), .val (.int (0 : Int32)), .val (.int (2 : Int32)), .val (.int (0 : Int32)), .unset] [])) (fun _ zk => XS.icmpNo X0.here hx rfl (hb hby d10_7) rfl (tlt ((by decide) : (0 : Int32) < (2 : Int32))).2.1 zk) ?_
  refine Go.st (T' := s₁) (g' := (mkF m 11 #[.val (.ref b), .val (.int (0 : Int32)), .val (.ref d), .val (.int (0 : Int32)), .val (.int (2 : Int32)), .val (.int (0 : Int32)), .unset] [(.ref b)])) (fun _ zk => XS.aloadN X0.here hx rfl (hb hby d10_10) rfl rfl zk) ?_
  refine Go.st (T' := s₁) (g' := (mkF m 12 #[.val (.ref b), .val (.int (0 : Int32)), .val (.ref d), .val (.int (0 : Int32)), .val (.int (2 : Int32)), .val (.int (0 : Int32)), .unset] [(.int (0 : Int32)), (.ref b)])) (fun _ zk => XS.iloadN X0.here hx rfl (hb hby d10_11) rfl zk) ?_
  refine Go.st (T' := s₁) (g' := (mkF m 13 #[.val (.ref b), .val (.int (0 : Int32)), .val (.ref d), .val (.int (0 : Int32)), .val (.int (2 : Int32)), .val (.int (0 : Int32)), .unset] [(.int c0)])) (fun _ zk => ldCV X0 hx hZ e0 VC (j := (0 : Int32)) ⟨by decide, by decide⟩ (v := (.int c0)) rfl (g := (mkF m 12 #[.val (.ref b), .val (.int (0 : Int32)), .val (.ref d), .val (.int (0 : Int32)), .val (.int (2 : Int32)), .val (.int (0 : Int32)), .unset] [(.int (0 : Int32)), (.ref b)])) rfl (rest := []) rfl (hb hby d10_12) zk) ?_
  refine Go.st (T' := s₁) (g' := (mkF m 15 #[.val (.ref b), .val (.int (0 : Int32)), .val (.ref d), .val (.int (0 : Int32)), .val (.int (2 : Int32)), .val (.int (0 : Int32)), .val (.int c0)] [])) (fun _ zk => XS.istore X0.here hx rfl (hb hby d10_13) rfl (l' := #[.val (.ref b), .val (.int (0 : Int32)), .val (.ref d), .val (.int (0 : Int32)), .val (.int (2 : Int32)), .val (.int (0 : Int32)), .val (.int c0)]) rfl zk) ?_
  refine Go.st (T' := s₁) (g' := (mkF m 17 #[.val (.ref b), .val (.int (0 : Int32)), .val (.ref d), .val (.int (0 : Int32)), .val (.int (2 : Int32)), .val (.int (0 : Int32)), .val (.int c0)] [(.int c0)])) (fun _ zk => XS.iload X0.here hx rfl (hb hby d10_15) rfl zk) ?_
  refine Go.st (T' := s₁) (g' := (mkF m 20 #[.val (.ref b), .val (.int (0 : Int32)), .val (.ref d), .val (.int (0 : Int32)), .val (.int (2 : Int32)), .val (.int (0 : Int32)), .val (.int c0)] [(.int (255 : Int32)), (.int c0)])) (fun _ zk => XS.sipush X0.here hx rfl (hb hby d10_17) zk) ?_
  refine Go.st (T' := s₁) (g' := (mkF m 26 #[.val (.ref b), .val (.int (0 : Int32)), .val (.ref d), .val (.int (0 : Int32)), .val (.int (2 : Int32)), .val (.int (0 : Int32)), .val (.int c0)] [])) (fun _ zk => XS.icmpYes X0.here hx rfl (pc0 := 20) (pc' := 26) rfl (hb hby d10_20) rfl (flt (p0 : ¬ ((255 : Int32) < c0))).2.2.2 (by decide) (by decide) zk) ?_
  refine Go.st (T' := s₁) (g' := (mkF m 27 #[.val (.ref b), .val (.int (0 : Int32)), .val (.ref d), .val (.int (0 : Int32)), .val (.int (2 : Int32)), .val (.int (0 : Int32)), .val (.int c0)] [(.ref d)])) (fun _ zk => XS.aloadN X0.here hx rfl (hb hby d10_26) rfl rfl zk) ?_
  refine Go.st (T' := s₁) (g' := (mkF m 28 #[.val (.ref b), .val (.int (0 : Int32)), .val (.ref d), .val (.int (0 : Int32)), .val (.int (2 : Int32)), .val (.int (0 : Int32)), .val (.int c0)] [(.int (0 : Int32)), (.ref d)])) (fun _ zk => XS.iloadN X0.here hx rfl (hb hby d10_27) rfl zk) ?_
  refine Go.st (T' := s₁) (g' := (mkF m 30 #[.val (.ref b), .val (.int (0 : Int32)), .val (.ref d), .val (.int (0 : Int32)), .val (.int (2 : Int32)), .val (.int (0 : Int32)), .val (.int c0)] [(.int c0), (.int (0 : Int32)), (.ref d)])) (fun _ zk => XS.iload X0.here hx rfl (hb hby d10_28) rfl zk) ?_
  refine Go.st (T' := s₁) (g' := (mkF m 31 #[.val (.ref b), .val (.int (0 : Int32)), .val (.ref d), .val (.int (0 : Int32)), .val (.int (2 : Int32)), .val (.int (0 : Int32)), .val (.int c0)] [(.int (c0.toInt8.toInt32)), (.int (0 : Int32)), (.ref d)])) (fun _ zk => XS.i2b X0.here hx rfl (hb hby d10_30) rfl zk) ?_
  obtain ⟨T1, h1, X1, e1, W1, V1, st1⟩ := stBV X0 hx hZ e0 VB (j := (0 : Int32)) (i := 0) (by decide) rfl (Nat.le_of_ble_eq_true rfl) (g := (mkF m 31 #[.val (.ref b), .val (.int (0 : Int32)), .val (.ref d), .val (.int (0 : Int32)), .val (.int (2 : Int32)), .val (.int (0 : Int32)), .val (.int c0)] [(.int (c0.toInt8.toInt32)), (.int (0 : Int32)), (.ref d)])) rfl rfl (hb hby d10_31)
  rw [nar_b] at V1
  have V1' : Arv Z h1 d kB .byte (2 : Int32) [(.int (c0.toInt8.toInt32)), (.int (0 : Int32))] (.int (0 : Int32)) := V1
  have N1 := Fr.snoc X1 N0 gd
  refine Go.st (T' := T1) (g' := (mkF m 32 #[.val (.ref b), .val (.int (0 : Int32)), .val (.ref d), .val (.int (0 : Int32)), .val (.int (2 : Int32)), .val (.int (0 : Int32)), .val (.int c0)] [])) (fun _ zk => st1 _ zk) ?_
  refine Go.st (T' := T1) (g' := (mkF m 35 #[.val (.ref b), .val (.int ((0 : Int32) + (1 : Int32))), .val (.ref d), .val (.int (0 : Int32)), .val (.int (2 : Int32)), .val (.int (0 : Int32)), .val (.int c0)] [])) (fun _ zk => XS.iinc X1.here hx rfl (hb hby d10_32) rfl (l' := #[.val (.ref b), .val (.int ((0 : Int32) + (1 : Int32))), .val (.ref d), .val (.int (0 : Int32)), .val (.int (2 : Int32)), .val (.int (0 : Int32)), .val (.int c0)]) rfl zk) ?_
  rw [show ((0 : Int32) + (1 : Int32)) = (1 : Int32) from by decide]
  refine Go.st (T' := T1) (g' := (mkF m 38 #[.val (.ref b), .val (.int (1 : Int32)), .val (.ref d), .val (.int ((0 : Int32) + (1 : Int32))), .val (.int (2 : Int32)), .val (.int (0 : Int32)), .val (.int c0)] [])) (fun _ zk => XS.iinc X1.here hx rfl (hb hby d10_35) rfl (l' := #[.val (.ref b), .val (.int (1 : Int32)), .val (.ref d), .val (.int ((0 : Int32) + (1 : Int32))), .val (.int (2 : Int32)), .val (.int (0 : Int32)), .val (.int c0)]) rfl zk) ?_
  rw [show ((0 : Int32) + (1 : Int32)) = (1 : Int32) from by decide]
  refine Go.st (T' := T1) (g' := (mkF m 41 #[.val (.ref b), .val (.int (1 : Int32)), .val (.ref d), .val (.int (1 : Int32)), .val (.int (2 : Int32)), .val (.int ((0 : Int32) + (1 : Int32))), .val (.int c0)] [])) (fun _ zk => XS.iinc X1.here hx rfl (hb hby d10_38) rfl (l' := #[.val (.ref b), .val (.int (1 : Int32)), .val (.ref d), .val (.int (1 : Int32)), .val (.int (2 : Int32)), .val (.int ((0 : Int32) + (1 : Int32))), .val (.int c0)]) rfl zk) ?_
  rw [show ((0 : Int32) + (1 : Int32)) = (1 : Int32) from by decide]
  refine Go.st (T' := T1) (g' := (mkF m 3 #[.val (.ref b), .val (.int (1 : Int32)), .val (.ref d), .val (.int (1 : Int32)), .val (.int (2 : Int32)), .val (.int (1 : Int32)), .val (.int c0)] [])) (fun _ zk => XS.goto X1.here hx rfl (pc0 := 41) (pc' := 3) rfl (hb hby d10_41) (by decide) (by decide) zk) ?_
  refine Go.st (T' := T1) (g' := (mkF m 5 #[.val (.ref b), .val (.int (1 : Int32)), .val (.ref d), .val (.int (1 : Int32)), .val (.int (2 : Int32)), .val (.int (1 : Int32)), .val (.int c0)] [(.int (1 : Int32))])) (fun _ zk => XS.iload X1.here hx rfl (hb hby d10_3) rfl zk) ?_
  refine Go.st (T' := T1) (g' := (mkF m 7 #[.val (.ref b), .val (.int (1 : Int32)), .val (.ref d), .val (.int (1 : Int32)), .val (.int (2 : Int32)), .val (.int (1 : Int32)), .val (.int c0)] [(.int (2 : Int32)), (.int (1 : Int32))])) (fun _ zk => XS.iload X1.here hx rfl (hb hby d10_5) rfl zk) ?_
  refine Go.st (T' := T1) (g' := (mkF m 10 #[.val (.ref b), .val (.int (1 : Int32)), .val (.ref d), .val (.int (1 : Int32)), .val (.int (2 : Int32)), .val (.int (1 : Int32)), .val (.int c0)] [])) (fun _ zk => XS.icmpNo X1.here hx rfl (hb hby d10_7) rfl (tlt ((by decide) : (1 : Int32) < (2 : Int32))).2.1 zk) ?_
  refine Go.st (T' := T1) (g' := (mkF m 11 #[.val (.ref b), .val (.int (1 : Int32)), .val (.ref d), .val (.int (1 : Int32)), .val (.int (2 : Int32)), .val (.int (1 : Int32)), .val (.int c0)] [(.ref b)])) (fun _ zk => XS.aloadN X1.here hx rfl (hb hby d10_10) rfl rfl zk) ?_
  refine Go.st (T' := T1) (g' := (mkF m 12 #[.val (.ref b), .val (.int (1 : Int32)), .val (.ref d), .val (.int (1 : Int32)), .val (.int (2 : Int32)), .val (.int (1 : Int32)), .val (.int c0)] [(.int (1 : Int32)), (.ref b)])) (fun _ zk => XS.iloadN X1.here hx rfl (hb hby d10_11) rfl zk) ?_
  have f2 := (VC.other W1 hbd)
  refine Go.st (T' := T1) (g' := (mkF m 13 #[.val (.ref b), .val (.int (1 : Int32)), .val (.ref d), .val (.int (1 : Int32)), .val (.int (2 : Int32)), .val (.int (1 : Int32)), .val (.int c0)] [(.int c1)])) (fun _ zk => ldCV X1 hx hZ e1 f2 (j := (1 : Int32)) ⟨by decide, by decide⟩ (v := (.int c1)) rfl (g := (mkF m 12 #[.val (.ref b), .val (.int (1 : Int32)), .val (.ref d), .val (.int (1 : Int32)), .val (.int (2 : Int32)), .val (.int (1 : Int32)), .val (.int c0)] [(.int (1 : Int32)), (.ref b)])) rfl (rest := []) rfl (hb hby d10_12) zk) ?_
  refine Go.st (T' := T1) (g' := (mkF m 15 #[.val (.ref b), .val (.int (1 : Int32)), .val (.ref d), .val (.int (1 : Int32)), .val (.int (2 : Int32)), .val (.int (1 : Int32)), .val (.int c1)] [])) (fun _ zk => XS.istore X1.here hx rfl (hb hby d10_13) rfl (l' := #[.val (.ref b), .val (.int (1 : Int32)), .val (.ref d), .val (.int (1 : Int32)), .val (.int (2 : Int32)), .val (.int (1 : Int32)), .val (.int c1)]) rfl zk) ?_
  refine Go.st (T' := T1) (g' := (mkF m 17 #[.val (.ref b), .val (.int (1 : Int32)), .val (.ref d), .val (.int (1 : Int32)), .val (.int (2 : Int32)), .val (.int (1 : Int32)), .val (.int c1)] [(.int c1)])) (fun _ zk => XS.iload X1.here hx rfl (hb hby d10_15) rfl zk) ?_
  refine Go.st (T' := T1) (g' := (mkF m 20 #[.val (.ref b), .val (.int (1 : Int32)), .val (.ref d), .val (.int (1 : Int32)), .val (.int (2 : Int32)), .val (.int (1 : Int32)), .val (.int c1)] [(.int (255 : Int32)), (.int c1)])) (fun _ zk => XS.sipush X1.here hx rfl (hb hby d10_17) zk) ?_
  refine Go.st (T' := T1) (g' := (mkF m 26 #[.val (.ref b), .val (.int (1 : Int32)), .val (.ref d), .val (.int (1 : Int32)), .val (.int (2 : Int32)), .val (.int (1 : Int32)), .val (.int c1)] [])) (fun _ zk => XS.icmpYes X1.here hx rfl (pc0 := 20) (pc' := 26) rfl (hb hby d10_20) rfl (flt (p1 : ¬ ((255 : Int32) < c1))).2.2.2 (by decide) (by decide) zk) ?_
  refine Go.st (T' := T1) (g' := (mkF m 27 #[.val (.ref b), .val (.int (1 : Int32)), .val (.ref d), .val (.int (1 : Int32)), .val (.int (2 : Int32)), .val (.int (1 : Int32)), .val (.int c1)] [(.ref d)])) (fun _ zk => XS.aloadN X1.here hx rfl (hb hby d10_26) rfl rfl zk) ?_
  refine Go.st (T' := T1) (g' := (mkF m 28 #[.val (.ref b), .val (.int (1 : Int32)), .val (.ref d), .val (.int (1 : Int32)), .val (.int (2 : Int32)), .val (.int (1 : Int32)), .val (.int c1)] [(.int (1 : Int32)), (.ref d)])) (fun _ zk => XS.iloadN X1.here hx rfl (hb hby d10_27) rfl zk) ?_
  refine Go.st (T' := T1) (g' := (mkF m 30 #[.val (.ref b), .val (.int (1 : Int32)), .val (.ref d), .val (.int (1 : Int32)), .val (.int (2 : Int32)), .val (.int (1 : Int32)), .val (.int c1)] [(.int c1), (.int (1 : Int32)), (.ref d)])) (fun _ zk => XS.iload X1.here hx rfl (hb hby d10_28) rfl zk) ?_
  refine Go.st (T' := T1) (g' := (mkF m 31 #[.val (.ref b), .val (.int (1 : Int32)), .val (.ref d), .val (.int (1 : Int32)), .val (.int (2 : Int32)), .val (.int (1 : Int32)), .val (.int c1)] [(.int (c1.toInt8.toInt32)), (.int (1 : Int32)), (.ref d)])) (fun _ zk => XS.i2b X1.here hx rfl (hb hby d10_30) rfl zk) ?_
  obtain ⟨T3, h3, X3, e3, W3, V3, st3⟩ := stBV X1 hx hZ e1 V1' (j := (1 : Int32)) (i := 1) (by decide) rfl (Nat.le_of_ble_eq_true rfl) (g := (mkF m 31 #[.val (.ref b), .val (.int (1 : Int32)), .val (.ref d), .val (.int (1 : Int32)), .val (.int (2 : Int32)), .val (.int (1 : Int32)), .val (.int c1)] [(.int (c1.toInt8.toInt32)), (.int (1 : Int32)), (.ref d)])) rfl rfl (hb hby d10_31)
  rw [nar_b] at V3
  have V3' : Arv Z h3 d kB .byte (2 : Int32) [(.int (c0.toInt8.toInt32)), (.int (c1.toInt8.toInt32))] (.int (0 : Int32)) := V3
  have N3 := Fr.snoc X3 N1 gd
  refine Go.st (T' := T3) (g' := (mkF m 32 #[.val (.ref b), .val (.int (1 : Int32)), .val (.ref d), .val (.int (1 : Int32)), .val (.int (2 : Int32)), .val (.int (1 : Int32)), .val (.int c1)] [])) (fun _ zk => st3 _ zk) ?_
  refine Go.st (T' := T3) (g' := (mkF m 35 #[.val (.ref b), .val (.int ((1 : Int32) + (1 : Int32))), .val (.ref d), .val (.int (1 : Int32)), .val (.int (2 : Int32)), .val (.int (1 : Int32)), .val (.int c1)] [])) (fun _ zk => XS.iinc X3.here hx rfl (hb hby d10_32) rfl (l' := #[.val (.ref b), .val (.int ((1 : Int32) + (1 : Int32))), .val (.ref d), .val (.int (1 : Int32)), .val (.int (2 : Int32)), .val (.int (1 : Int32)), .val (.int c1)]) rfl zk) ?_
  rw [show ((1 : Int32) + (1 : Int32)) = (2 : Int32) from by decide]
  refine Go.st (T' := T3) (g' := (mkF m 38 #[.val (.ref b), .val (.int (2 : Int32)), .val (.ref d), .val (.int ((1 : Int32) + (1 : Int32))), .val (.int (2 : Int32)), .val (.int (1 : Int32)), .val (.int c1)] [])) (fun _ zk => XS.iinc X3.here hx rfl (hb hby d10_35) rfl (l' := #[.val (.ref b), .val (.int (2 : Int32)), .val (.ref d), .val (.int ((1 : Int32) + (1 : Int32))), .val (.int (2 : Int32)), .val (.int (1 : Int32)), .val (.int c1)]) rfl zk) ?_
  rw [show ((1 : Int32) + (1 : Int32)) = (2 : Int32) from by decide]
  refine Go.st (T' := T3) (g' := (mkF m 41 #[.val (.ref b), .val (.int (2 : Int32)), .val (.ref d), .val (.int (2 : Int32)), .val (.int (2 : Int32)), .val (.int ((1 : Int32) + (1 : Int32))), .val (.int c1)] [])) (fun _ zk => XS.iinc X3.here hx rfl (hb hby d10_38) rfl (l' := #[.val (.ref b), .val (.int (2 : Int32)), .val (.ref d), .val (.int (2 : Int32)), .val (.int (2 : Int32)), .val (.int ((1 : Int32) + (1 : Int32))), .val (.int c1)]) rfl zk) ?_
  rw [show ((1 : Int32) + (1 : Int32)) = (2 : Int32) from by decide]
  refine Go.st (T' := T3) (g' := (mkF m 3 #[.val (.ref b), .val (.int (2 : Int32)), .val (.ref d), .val (.int (2 : Int32)), .val (.int (2 : Int32)), .val (.int (2 : Int32)), .val (.int c1)] [])) (fun _ zk => XS.goto X3.here hx rfl (pc0 := 41) (pc' := 3) rfl (hb hby d10_41) (by decide) (by decide) zk) ?_
  refine Go.st (T' := T3) (g' := (mkF m 5 #[.val (.ref b), .val (.int (2 : Int32)), .val (.ref d), .val (.int (2 : Int32)), .val (.int (2 : Int32)), .val (.int (2 : Int32)), .val (.int c1)] [(.int (2 : Int32))])) (fun _ zk => XS.iload X3.here hx rfl (hb hby d10_3) rfl zk) ?_
  refine Go.st (T' := T3) (g' := (mkF m 7 #[.val (.ref b), .val (.int (2 : Int32)), .val (.ref d), .val (.int (2 : Int32)), .val (.int (2 : Int32)), .val (.int (2 : Int32)), .val (.int c1)] [(.int (2 : Int32)), (.int (2 : Int32))])) (fun _ zk => XS.iload X3.here hx rfl (hb hby d10_5) rfl zk) ?_
  refine Go.st (T' := T3) (g' := (mkF m 44 #[.val (.ref b), .val (.int (2 : Int32)), .val (.ref d), .val (.int (2 : Int32)), .val (.int (2 : Int32)), .val (.int (2 : Int32)), .val (.int c1)] [])) (fun _ zk => XS.icmpYes X3.here hx rfl (pc0 := 7) (pc' := 44) rfl (hb hby d10_7) rfl (flt ((by decide) : ¬ ((2 : Int32) < (2 : Int32)))).2.1 (by decide) (by decide) zk) ?_
  refine Go.st (T' := T3) (g' := (mkF m 46 #[.val (.ref b), .val (.int (2 : Int32)), .val (.ref d), .val (.int (2 : Int32)), .val (.int (2 : Int32)), .val (.int (2 : Int32)), .val (.int c1)] [(.int (2 : Int32))])) (fun _ zk => XS.iload X3.here hx rfl (hb hby d10_44) rfl zk) ?_
  refine Go.retN X3 hx hlk hret rfl (by simp) (hb hby d10_46) (by decide) (by decide) e3 ?_
  exact ⟨rfl, N3, (((Keep.refl h0 [d]).wr W1 (Or.inl (List.mem_of_getElem? (i := 0) rfl))).wr W3 (Or.inl (List.mem_of_getElem? (i := 0) rfl))), V3'⟩
def rr_cmp3_2 : Room := { frames := 1, cells := 1, slots := 2, locals := 18 }
set_option maxRecDepth 65536 in
set_option maxHeartbeats 40000000 in
theorem rm_cmp3_2 (l : Launch) (Z : State) (a0 : Array Value) (hw : ∀ d ∈ tables_1, d.before a0 Z = true) (ws : List Jvm.Cond) (b : Addr) (kC : ClassId) (c0 c1 : Int32) (h0 : Heap) (n0 : Nat) (Z0 : n0 ≤ h0.size) (VC : Arv Z h0 b kC .char (2 : Int32) [(.int c0), (.int c1)] (.int (0 : Int32))) (p0 : ¬ (255 : Int32) < c0) (p1 : ¬ (255 : Int32) < c1) :
    Con l Z (⟨"java/lang/StringUTF16", "compress", "([CII)[B"⟩ : MethodName) jdk_52_method_16_code 6 (some (.array .byte)) ws rr_cmp3_2 #[(.ref b), (.int (0 : Int32)), (.int (2 : Int32))] h0 (fun v h L => ∃ (t : Addr) (k : ClassId), v = some (.ref t) ∧ Fr n0 L ∧ Ext h0 h ∧ h0.size ≤ t ∧ Arv Z h t k .byte (2 : Int32) [(.int (c0.toInt8.toInt32)), (.int (c1.toInt8.toInt32))] (.int (0 : Int32))) := by
  refine Con.enter (plainFor_of_name pn6) ?_
  intro p e s m below meth c s₁ X0 hx hZ hby hml hret hlk hown hnm e0
  have N0 := Fr.nil n0
  refine Go.cast (g' := (mkF m 0 #[.val (.ref b), .val (.int (0 : Int32)), .val (.int (2 : Int32)), .unset, .unset, .unset] [])) (by first | rfl | (simp [entryFrame, mkF, argsToLocals, Value.category]; done)) ?_
  refine Go.st (T' := s₁) (g' := (mkF m 1 #[.val (.ref b), .val (.int (0 : Int32)), .val (.int (2 : Int32)), .unset, .unset, .unset] [(.int (2 : Int32))])) (fun _ zk => XS.iloadN X0.here hx rfl (hb hby d9_0) rfl zk) ?_
  obtain ⟨T1, h1, k1, X1, e1, E1, A1, st1⟩ := newP (aty := .byte) X0 hx hZ (w20 hw) e0 (g := (mkF m 1 #[.val (.ref b), .val (.int (0 : Int32)), .val (.int (2 : Int32)), .unset, .unset, .unset] [(.int (2 : Int32))])) rfl (hb hby d9_1) rfl (by decide) (cap := 2) (by decide) (by decide) (by decide) (by decide)
  obtain ⟨b1, g1⟩ : ∃ z, z = h0.size := ⟨_, rfl⟩
  rw [← g1] at A1 st1
  have V1 : Arv Z h1 b1 k1 .byte (2 : Int32) [(.int (0 : Int32)), (.int (0 : Int32))] (.int (0 : Int32)) := (Arv.new A1 (by decide)).pad (pad_rep [] (.int (0 : Int32)) 2)
  refine Go.st (T' := T1) (g' := (mkF m 3 #[.val (.ref b), .val (.int (0 : Int32)), .val (.int (2 : Int32)), .unset, .unset, .unset] [(.ref b1)])) (fun _ zk => st1 _ zk) ?_
  refine Go.st (T' := T1) (g' := (mkF m 4 #[.val (.ref b), .val (.int (0 : Int32)), .val (.int (2 : Int32)), .val (.ref b1), .unset, .unset] [])) (fun _ zk => XS.astoreN X1.here hx rfl (hb hby d9_3) rfl rfl (l' := #[.val (.ref b), .val (.int (0 : Int32)), .val (.int (2 : Int32)), .val (.ref b1), .unset, .unset]) rfl zk) ?_
  refine Go.st (T' := T1) (g' := (mkF m 5 #[.val (.ref b), .val (.int (0 : Int32)), .val (.int (2 : Int32)), .val (.ref b1), .unset, .unset] [(.ref b)])) (fun _ zk => XS.aloadN X1.here hx rfl (hb hby d9_4) rfl rfl zk) ?_
  refine Go.st (T' := T1) (g' := (mkF m 6 #[.val (.ref b), .val (.int (0 : Int32)), .val (.int (2 : Int32)), .val (.ref b1), .unset, .unset] [(.int (0 : Int32)), (.ref b)])) (fun _ zk => XS.iloadN X1.here hx rfl (hb hby d9_5) rfl zk) ?_
  refine Go.st (T' := T1) (g' := (mkF m 7 #[.val (.ref b), .val (.int (0 : Int32)), .val (.int (2 : Int32)), .val (.ref b1), .unset, .unset] [(.ref b1), (.int (0 : Int32)), (.ref b)])) (fun _ zk => XS.aloadN X1.here hx rfl (hb hby d9_6) rfl rfl zk) ?_
  refine Go.st (T' := T1) (g' := (mkF m 8 #[.val (.ref b), .val (.int (0 : Int32)), .val (.int (2 : Int32)), .val (.ref b1), .unset, .unset] [(.int (0 : Int32)), (.ref b1), (.int (0 : Int32)), (.ref b)])) (fun _ zk => XS.iconst X1.here hx rfl (hb hby d9_7) zk) ?_
  refine Go.st (T' := T1) (g' := (mkF m 9 #[.val (.ref b), .val (.int (0 : Int32)), .val (.int (2 : Int32)), .val (.ref b1), .unset, .unset] [(.int (2 : Int32)), (.int (0 : Int32)), (.ref b1), (.int (0 : Int32)), (.ref b)])) (fun _ zk => XS.iloadN X1.here hx rfl (hb hby d9_8) rfl zk) ?_
  have x2 : Ext h0 h1 := E1
  have f3 := VC.ext x2
  refine Go.callSt (y := (⟨"java/lang/StringUTF16", "compress", "([CI[BII)I"⟩ : MethodName)) X1 hx hZ hown e1 (w58 hw) (w59 hw) (w56 hw) (w60 hw) (by decide) (argsL := [(.ref b), (.int (0 : Int32)), (.ref b1), (.int (0 : Int32)), (.int (2 : Int32))]) (rest := []) (W := 0) (rm_cmp5_2 l Z a0 hw [] b b1 kC k1 c0 c1 h1 n0 (Nat.le_trans Z0 E1.1) f3 V1 (ne_lt VC.lt (Nat.le_refl _) (Nat.le_of_eq g1.symm)) (Nat.le_trans Z0 (Nat.le_trans (Nat.le_refl _) (Nat.le_of_eq g1.symm))) p0 p1) rfl (lenOf pd7 rfl) rfl (by rw [hml]; rfl) rfl (by show 2 * 0 + _ ≤ _; exact Nat.le_of_eq rfl) (by decide) (by decide) (by decide) (by decide) (hb hby d9_9) ?_
  intro v4 T4 h4 L4 X4 e4 q4
  obtain ⟨hv4, Nf4, K4, V4⟩ := q4
  subst hv4
  have N4 := Fr.app N0 Nf4
  show Go p.tables e below _ T4 (mkF m 12 #[.val (.ref b), .val (.int (0 : Int32)), .val (.int (2 : Int32)), .val (.ref b1), .unset, .unset] [(.int (2 : Int32))])
  refine Go.st (T' := T4) (g' := (mkF m 14 #[.val (.ref b), .val (.int (0 : Int32)), .val (.int (2 : Int32)), .val (.ref b1), .val (.int (2 : Int32)), .unset] [])) (fun _ zk => XS.istore X4.here hx rfl (hb hby d9_12) rfl (l' := #[.val (.ref b), .val (.int (0 : Int32)), .val (.int (2 : Int32)), .val (.ref b1), .val (.int (2 : Int32)), .unset]) rfl zk) ?_
  refine Go.st (T' := T4) (g' := (mkF m 16 #[.val (.ref b), .val (.int (0 : Int32)), .val (.int (2 : Int32)), .val (.ref b1), .val (.int (2 : Int32)), .unset] [(.int (2 : Int32))])) (fun _ zk => XS.iload X4.here hx rfl (hb hby d9_14) rfl zk) ?_
  refine Go.st (T' := T4) (g' := (mkF m 17 #[.val (.ref b), .val (.int (0 : Int32)), .val (.int (2 : Int32)), .val (.ref b1), .val (.int (2 : Int32)), .unset] [(.int (2 : Int32)), (.int (2 : Int32))])) (fun _ zk => XS.iloadN X4.here hx rfl (hb hby d9_16) rfl zk) ?_
  refine Go.st (T' := T4) (g' := (mkF m 57 #[.val (.ref b), .val (.int (0 : Int32)), .val (.int (2 : Int32)), .val (.ref b1), .val (.int (2 : Int32)), .unset] [])) (fun _ zk => XS.icmpYes X4.here hx rfl (pc0 := 17) (pc' := 57) rfl (hb hby d9_17) rfl (teq (rfl : (2 : Int32) = (2 : Int32))).1 (by decide) (by decide) zk) ?_
  refine Go.st (T' := T4) (g' := (mkF m 58 #[.val (.ref b), .val (.int (0 : Int32)), .val (.int (2 : Int32)), .val (.ref b1), .val (.int (2 : Int32)), .unset] [(.ref b1)])) (fun _ zk => XS.aloadN X4.here hx rfl (hb hby d9_57) rfl rfl zk) ?_
  have x5 : Ext h0 h4 := (x2.thenK K4 (allS (P := fun x => h0.size ≤ x) (Nat.le_of_eq g1.symm) all0))
  refine Go.retA X4 hx hlk hret rfl rfl (hb hby d9_58) (by decide) (by decide) e4 ?_
  exact ⟨_, _, rfl, N4, x5, (Nat.le_trans (Nat.le_refl _) (Nat.le_of_eq g1.symm)), V4⟩
def rr_codl_2 : Room := { frames := 0, cells := 0, slots := 0, locals := 0 }
set_option maxRecDepth 65536 in
set_option maxHeartbeats 40000000 in
theorem rm_codl_2 (l : Launch) (Z : State) (a0 : Array Value) (hw : ∀ d ∈ tables_1, d.before a0 Z = true) (ws : List Jvm.Cond) (t : Addr) (k : ClassId) (x0 x1 : Int32) (h0 : Heap) (n0 : Nat) (Z0 : n0 ≤ h0.size) (VB : Arv Z h0 t k .byte (2 : Int32) [(.int x0), (.int x1)] (.int (0 : Int32))) :
    Con l Z (⟨"java/lang/StringUTF16", "coderFromArrayLen", "([BI)B"⟩ : MethodName) jdk_52_method_15_code 2 (some .byte) ws rr_codl_2 #[(.ref t), (.int (2 : Int32))] h0 (fun v h L => v = some (.int 0) ∧ Fr n0 L ∧ h = h0) := by
  refine Con.enter (plainFor_of_name pn6) ?_
  intro p e s m below meth c s₁ X0 hx hZ hby hml hret hlk hown hnm e0
  have N0 := Fr.nil n0
  refine Go.cast (g' := (mkF m 0 #[.val (.ref t), .val (.int (2 : Int32))] [])) (by first | rfl | (simp [entryFrame, mkF, argsToLocals, Value.category]; done)) ?_
  refine Go.st (T' := s₁) (g' := (mkF m 1 #[.val (.ref t), .val (.int (2 : Int32))] [(.int (2 : Int32))])) (fun _ zk => XS.iloadN X0.here hx rfl (hb hby d11_0) rfl zk) ?_
  refine Go.st (T' := s₁) (g' := (mkF m 2 #[.val (.ref t), .val (.int (2 : Int32))] [(.ref t), (.int (2 : Int32))])) (fun _ zk => XS.aloadN X0.here hx rfl (hb hby d11_1) rfl rfl zk) ?_
  refine Go.st (T' := s₁) (g' := (mkF m 3 #[.val (.ref t), .val (.int (2 : Int32))] [(.int (2 : Int32)), (.int (2 : Int32))])) (fun _ zk => lenV X0 hx hZ e0 VB (g := (mkF m 2 #[.val (.ref t), .val (.int (2 : Int32))] [(.ref t), (.int (2 : Int32))])) rfl (rest := [(.int (2 : Int32))]) rfl (hb hby d11_2) zk) ?_
  refine Go.st (T' := s₁) (g' := (mkF m 4 #[.val (.ref t), .val (.int (2 : Int32))] [(.int ((2 : Int32) - (2 : Int32)))])) (fun _ zk => XS.isub X0.here hx rfl (hb hby d11_3) rfl zk) ?_
  rw [show ((2 : Int32) - (2 : Int32)) = (0 : Int32) from by decide]
  refine Go.st (T' := s₁) (g' := (mkF m 6 #[.val (.ref t), .val (.int (2 : Int32))] [(.int (31 : Int32)), (.int (0 : Int32))])) (fun _ zk => XS.bipush X0.here hx rfl (hb hby d11_4) zk) ?_
  refine Go.st (T' := s₁) (g' := (mkF m 7 #[.val (.ref t), .val (.int (2 : Int32))] [(.int (((0 : Int32).toUInt32 >>> ((31 : Int32) &&& 31).toUInt32).toInt32))])) (fun _ zk => XS.iushr X0.here hx rfl (hb hby d11_6) rfl zk) ?_
  rw [show (((0 : Int32).toUInt32 >>> ((31 : Int32) &&& 31).toUInt32).toInt32) = (0 : Int32) from by decide]
  refine Go.st (T' := s₁) (g' := (mkF m 8 #[.val (.ref t), .val (.int (2 : Int32))] [(.int ((0 : Int32).toInt8.toInt32))])) (fun _ zk => XS.i2b X0.here hx rfl (hb hby d11_7) rfl zk) ?_
  rw [show ((0 : Int32).toInt8.toInt32) = (0 : Int32) from by decide]
  refine Go.retN X0 hx hlk hret rfl (by simp) (hb hby d11_8) (by decide) (by decide) e0 ?_
  exact ⟨rfl, N0, rfl⟩
def rr_init4_2 : Room := { frames := 2, cells := 1, slots := 2, locals := 35 }
set_option maxRecDepth 65536 in
set_option maxHeartbeats 40000000 in
theorem rm_init4_2 (l : Launch) (Z : State) (a0 : Array Value) (hw : ∀ d ∈ tables_1, d.before a0 Z = true) (ws : List Jvm.Cond) (a1 b : Addr) (kC : ClassId) (zc : Int32) (c0 c1 : Int32) (h0 : Heap) (n0 : Nat) (Z0 : n0 ≤ h0.size) (O0 : Old Z n0 h0) (E0 : Exa Z h0 a1 "java/lang/String") (g0 : n0 ≤ a1) (C0 : Fld Z h0 a1 "java/lang/String" "coder" "B" (.int (0 : Int32))) (V0 : Fld Z h0 a1 "java/lang/String" "value" "[B" .null) (VC : Arv Z h0 b kC .char (2 : Int32) [(.int c0), (.int c1)] (.int (0 : Int32))) (CS : Sta Z Z.heap "java/lang/String" "COMPACT_STRINGS" "Z" (.int zc)) (hz : ¬ zc = 0) (p0 : ¬ (255 : Int32) < c0) (p1 : ¬ (255 : Int32) < c1) :
    Con l Z (⟨"java/lang/String", "<init>", "([CIILjava/lang/Void;)V"⟩ : MethodName) jdk_42_method_149_code 6 none ws rr_init4_2 #[(.ref a1), (.ref b), (.int (0 : Int32)), (.int (2 : Int32)), .null] h0 (fun v h L => v = none ∧ Fr n0 L ∧ Keep h0 h [a1] ∧ Fld Z h a1 "java/lang/String" "coder" "B" (.int (0 : Int32)) ∧ ∃ (t : Addr) (k : ClassId), h0.size ≤ t ∧ Fld Z h a1 "java/lang/String" "value" "[B" (.ref t) ∧ Arv Z h t k .byte (2 : Int32) [(.int (c0.toInt8.toInt32)), (.int (c1.toInt8.toInt32))] (.int (0 : Int32))) := by
  refine Con.enter (plainFor_of_name pn3) ?_
  intro p e s m below meth c s₁ X0 hx hZ hby hml hret hlk hown hnm e0
  have N0 := Fr.nil n0
  refine Go.cast (g' := (mkF m 0 #[.val (.ref a1), .val (.ref b), .val (.int (0 : Int32)), .val (.int (2 : Int32)), .val .null, .unset] [])) (by first | rfl | (simp [entryFrame, mkF, argsToLocals, Value.category]; done)) ?_
  refine Go.st (T' := s₁) (g' := (mkF m 1 #[.val (.ref a1), .val (.ref b), .val (.int (0 : Int32)), .val (.int (2 : Int32)), .val .null, .unset] [(.ref a1)])) (fun _ zk => XS.aloadN X0.here hx rfl (hb hby d3_0) rfl rfl zk) ?_
  obtain ⟨T1, X1, e1, st1⟩ := initO X0 hx hZ hown (w16 hw) (w17 hw) (w18 hw) e0 (g := (mkF m 1 #[.val (.ref a1), .val (.ref b), .val (.int (0 : Int32)), .val (.int (2 : Int32)), .val .null, .unset] [(.ref a1)])) rfl (by rw [hml]; rfl) rfl (hb hby d3_1) (by decide) (W := 0) (by show 2 * 0 + _ ≤ _; exact Nat.le_of_eq rfl) (by decide)
  refine Go.st (T' := T1) (g' := (mkF m 4 #[.val (.ref a1), .val (.ref b), .val (.int (0 : Int32)), .val (.int (2 : Int32)), .val .null, .unset] [])) (fun _ zk => st1 _ zk) ?_
  refine Go.st (T' := T1) (g' := (mkF m 5 #[.val (.ref a1), .val (.ref b), .val (.int (0 : Int32)), .val (.int (2 : Int32)), .val .null, .unset] [(.int (2 : Int32))])) (fun _ zk => XS.iloadN X1.here hx rfl (hb hby d3_4) rfl zk) ?_
  refine Go.st (T' := T1) (g' := (mkF m 27 #[.val (.ref a1), .val (.ref b), .val (.int (0 : Int32)), .val (.int (2 : Int32)), .val .null, .unset] [])) (fun _ zk => XS.ifYes X1.here hx rfl (pc0 := 5) (pc' := 27) rfl (hb hby d3_5) rfl ((if0 _ _).trans (feq ((by decide) : ¬ ((2 : Int32) = (0 : Int32)))).2) (by decide) (by decide) zk) ?_
  obtain ⟨T2, X2, e2, st2⟩ := getS2 X1 hx hZ hown (host := "") (Or.inl (w53 hw)) Via.refl e1 (CS.ext O0.2) (g := (mkF m 27 #[.val (.ref a1), .val (.ref b), .val (.int (0 : Int32)), .val (.int (2 : Int32)), .val .null, .unset] [])) rfl (hb hby d3_27)
  refine Go.st (T' := T2) (g' := (mkF m 30 #[.val (.ref a1), .val (.ref b), .val (.int (0 : Int32)), .val (.int (2 : Int32)), .val .null, .unset] [(.int zc)])) (fun _ zk => st2 _ zk) ?_
  refine Go.st (T' := T2) (g' := (mkF m 33 #[.val (.ref a1), .val (.ref b), .val (.int (0 : Int32)), .val (.int (2 : Int32)), .val .null, .unset] [])) (fun _ zk => XS.ifNo X2.here hx rfl (hb hby d3_30) rfl ((if0 _ _).trans (feq (hz : ¬ (zc = (0 : Int32)))).1) zk) ?_
  refine Go.st (T' := T2) (g' := (mkF m 34 #[.val (.ref a1), .val (.ref b), .val (.int (0 : Int32)), .val (.int (2 : Int32)), .val .null, .unset] [(.ref b)])) (fun _ zk => XS.aloadN X2.here hx rfl (hb hby d3_33) rfl rfl zk) ?_
  refine Go.st (T' := T2) (g' := (mkF m 35 #[.val (.ref a1), .val (.ref b), .val (.int (0 : Int32)), .val (.int (2 : Int32)), .val .null, .unset] [(.int (0 : Int32)), (.ref b)])) (fun _ zk => XS.iloadN X2.here hx rfl (hb hby d3_34) rfl zk) ?_
  refine Go.st (T' := T2) (g' := (mkF m 36 #[.val (.ref a1), .val (.ref b), .val (.int (0 : Int32)), .val (.int (2 : Int32)), .val .null, .unset] [(.int (2 : Int32)), (.int (0 : Int32)), (.ref b)])) (fun _ zk => XS.iloadN X2.here hx rfl (hb hby d3_35) rfl zk) ?_
  refine Go.callSt (y := (⟨"java/lang/StringUTF16", "compress", "([CII)[B"⟩ : MethodName)) X2 hx hZ hown e2 (w54 hw) (w55 hw) (w56 hw) (w57 hw) (by decide) (argsL := [(.ref b), (.int (0 : Int32)), (.int (2 : Int32))]) (rest := []) (W := 0) (rm_cmp3_2 l Z a0 hw [] b kC c0 c1 h0 n0 Z0 VC p0 p1) rfl (lenOf pd8 rfl) rfl (by rw [hml]; rfl) rfl (by show 2 * 0 + _ ≤ _; exact Nat.le_of_eq rfl) (by decide) (by decide) (by decide) (by decide) (hb hby d3_36) ?_
  intro v3 T3 h3 L3 X3 e3 q3
  obtain ⟨t3, k3, hv3, Nf3, E3, ge3, V3⟩ := q3
  subst hv3
  have N3 := Fr.app N0 Nf3
  show Go p.tables e below _ T3 (mkF m 39 #[.val (.ref a1), .val (.ref b), .val (.int (0 : Int32)), .val (.int (2 : Int32)), .val .null, .unset] [(.ref t3)])
  refine Go.st (T' := T3) (g' := (mkF m 41 #[.val (.ref a1), .val (.ref b), .val (.int (0 : Int32)), .val (.int (2 : Int32)), .val .null, .val (.ref t3)] [])) (fun _ zk => XS.astore X3.here hx rfl (hb hby d3_39) rfl rfl (l' := #[.val (.ref a1), .val (.ref b), .val (.int (0 : Int32)), .val (.int (2 : Int32)), .val .null, .val (.ref t3)]) rfl zk) ?_
  refine Go.st (T' := T3) (g' := (mkF m 42 #[.val (.ref a1), .val (.ref b), .val (.int (0 : Int32)), .val (.int (2 : Int32)), .val .null, .val (.ref t3)] [(.ref a1)])) (fun _ zk => XS.aloadN X3.here hx rfl (hb hby d3_41) rfl rfl zk) ?_
  refine Go.st (T' := T3) (g' := (mkF m 44 #[.val (.ref a1), .val (.ref b), .val (.int (0 : Int32)), .val (.int (2 : Int32)), .val .null, .val (.ref t3)] [(.ref t3), (.ref a1)])) (fun _ zk => XS.aload X3.here hx rfl (hb hby d3_42) rfl rfl zk) ?_
  refine Go.st (T' := T3) (g' := (mkF m 45 #[.val (.ref a1), .val (.ref b), .val (.int (0 : Int32)), .val (.int (2 : Int32)), .val .null, .val (.ref t3)] [(.int (2 : Int32)), (.ref t3), (.ref a1)])) (fun _ zk => XS.iloadN X3.here hx rfl (hb hby d3_44) rfl zk) ?_
  refine Go.callSt (y := (⟨"java/lang/StringUTF16", "coderFromArrayLen", "([BI)B"⟩ : MethodName)) X3 hx hZ hown e3 (w61 hw) (w62 hw) (w56 hw) (w63 hw) (by decide) (argsL := [(.ref t3), (.int (2 : Int32))]) (rest := [(.ref a1)]) (W := 1) (rm_codl_2 l Z a0 hw [] t3 k3 (c0.toInt8.toInt32) (c1.toInt8.toInt32) h3 n0 (Nat.le_trans Z0 E3.1) V3) rfl (lenOf pd9 rfl) rfl (by rw [hml]; rfl) rfl (by show 2 * 0 + _ ≤ _; exact Nat.le_of_eq rfl) (by decide) (by decide) (by decide) (by decide) (hb hby d3_45) ?_
  intro v4 T4 h4 L4 X4 e4 q4
  obtain ⟨hv4, Nf4, hh4⟩ := q4
  subst hv4
  have E4 : T4.heap = h3 := e4.trans hh4
  have N4 := Fr.app N3 Nf4
  show Go p.tables e below _ T4 (mkF m 48 #[.val (.ref a1), .val (.ref b), .val (.int (0 : Int32)), .val (.int (2 : Int32)), .val .null, .val (.ref t3)] [(.int (0 : Int32)), (.ref a1)])
  have x6 : Ext h0 h3 := E3
  have f7 := C0.ext x6
  have f8 := E0.ext x6
  obtain ⟨T5, h5, X5, e5, W5, st5⟩ := putF X4 hx hZ hown (host := "") (Or.inl (w26 hw)) Via.refl E4 f7 f8 (Or.inr ⟨(w22 hw), rfl, hnm⟩) (w6 hw) (ty := .byte) (by decide) rfl rfl (g := (mkF m 48 #[.val (.ref a1), .val (.ref b), .val (.int (0 : Int32)), .val (.int (2 : Int32)), .val .null, .val (.ref t3)] [(.int (0 : Int32)), (.ref a1)])) rfl rfl (hb hby d3_48)
  have F5 := f7.same W5
  have N5 := Fr.snoc X5 N4 g0
  refine Go.st (T' := T5) (g' := (mkF m 51 #[.val (.ref a1), .val (.ref b), .val (.int (0 : Int32)), .val (.int (2 : Int32)), .val .null, .val (.ref t3)] [])) (fun _ zk => st5 _ zk) ?_
  refine Go.st (T' := T5) (g' := (mkF m 52 #[.val (.ref a1), .val (.ref b), .val (.int (0 : Int32)), .val (.int (2 : Int32)), .val .null, .val (.ref t3)] [(.ref a1)])) (fun _ zk => XS.aloadN X5.here hx rfl (hb hby d3_51) rfl rfl zk) ?_
  refine Go.st (T' := T5) (g' := (mkF m 54 #[.val (.ref a1), .val (.ref b), .val (.int (0 : Int32)), .val (.int (2 : Int32)), .val .null, .val (.ref t3)] [(.ref t3), (.ref a1)])) (fun _ zk => XS.aload X5.here hx rfl (hb hby d3_52) rfl rfl zk) ?_
  have f10 := ((V0.ext E3).other W5 (Or.inr (slot_ne (Or.inr (w21 hw)) (Or.inr (w22 hw)) (by decide) (t := (.array .byte)) (t' := .byte) (by decide) (by decide))))
  have f11 := (f8.wr W5)
  obtain ⟨T9, h9, X9, e9, W9, st9⟩ := putF X5 hx hZ hown (host := "") (Or.inl (w25 hw)) Via.refl e5 f10 f11 (Or.inr ⟨(w21 hw), rfl, hnm⟩) (w6 hw) (ty := (.array .byte)) (by decide) rfl rfl (g := (mkF m 54 #[.val (.ref a1), .val (.ref b), .val (.int (0 : Int32)), .val (.int (2 : Int32)), .val .null, .val (.ref t3)] [(.ref t3), (.ref a1)])) rfl rfl (hb hby d3_54)
  have F9 := f10.same W9
  have N9 := Fr.snoc X9 N5 g0
  refine Go.st (T' := T9) (g' := (mkF m 57 #[.val (.ref a1), .val (.ref b), .val (.int (0 : Int32)), .val (.int (2 : Int32)), .val .null, .val (.ref t3)] [])) (fun _ zk => st9 _ zk) ?_
  have f12 := (F5.other W9 (Or.inr (slot_ne (Or.inr (w22 hw)) (Or.inr (w21 hw)) (by decide) (t := .byte) (t' := (.array .byte)) (by decide) (by decide))))
  have f13 := ((V3.other W5 (Ne.symm (ne_lt E0.lt (Nat.le_refl _) ge3))).other W9 (Ne.symm (ne_lt E0.lt (Nat.le_refl _) ge3)))
  refine Go.retV X9 hx hlk hret (hb hby d3_57) (by decide) (by decide) e9 ?_
  exact ⟨rfl, N9, ((((Keep.refl h0 [a1]).ext E3).wr W5 (Or.inl (List.mem_of_getElem? (i := 0) rfl))).wr W9 (Or.inl (List.mem_of_getElem? (i := 0) rfl))), f12, t3, _, (Nat.le_trans (Nat.le_refl _) ge3), F9, f13⟩
def rr_init1_2 : Room := { frames := 3, cells := 1, slots := 2, locals := 52 }
set_option maxRecDepth 65536 in
set_option maxHeartbeats 40000000 in
theorem rm_init1_2 (l : Launch) (Z : State) (a0 : Array Value) (hw : ∀ d ∈ tables_1, d.before a0 Z = true) (ws : List Jvm.Cond) (a1 b : Addr) (kC : ClassId) (zc : Int32) (c0 c1 : Int32) (h0 : Heap) (n0 : Nat) (Z0 : n0 ≤ h0.size) (O0 : Old Z n0 h0) (E0 : Exa Z h0 a1 "java/lang/String") (g0 : n0 ≤ a1) (C0 : Fld Z h0 a1 "java/lang/String" "coder" "B" (.int (0 : Int32))) (V0 : Fld Z h0 a1 "java/lang/String" "value" "[B" .null) (VC : Arv Z h0 b kC .char (2 : Int32) [(.int c0), (.int c1)] (.int (0 : Int32))) (CS : Sta Z Z.heap "java/lang/String" "COMPACT_STRINGS" "Z" (.int zc)) (hz : ¬ zc = 0) (p0 : ¬ (255 : Int32) < c0) (p1 : ¬ (255 : Int32) < c1) :
    Con l Z (⟨"java/lang/String", "<init>", "([C)V"⟩ : MethodName) jdk_42_method_3_code 2 none ws rr_init1_2 #[(.ref a1), (.ref b)] h0 (fun v h L => v = none ∧ Fr n0 L ∧ Keep h0 h [a1] ∧ Fld Z h a1 "java/lang/String" "coder" "B" (.int (0 : Int32)) ∧ ∃ (t : Addr) (k : ClassId), h0.size ≤ t ∧ Fld Z h a1 "java/lang/String" "value" "[B" (.ref t) ∧ Arv Z h t k .byte (2 : Int32) [(.int (c0.toInt8.toInt32)), (.int (c1.toInt8.toInt32))] (.int (0 : Int32))) := by
  refine Con.enter (plainFor_of_name pn3) ?_
  intro p e s m below meth c s₁ X0 hx hZ hby hml hret hlk hown hnm e0
  have N0 := Fr.nil n0
  refine Go.cast (g' := (mkF m 0 #[.val (.ref a1), .val (.ref b)] [])) (by first | rfl | (simp [entryFrame, mkF, argsToLocals, Value.category]; done)) ?_
  refine Go.st (T' := s₁) (g' := (mkF m 1 #[.val (.ref a1), .val (.ref b)] [(.ref a1)])) (fun _ zk => XS.aloadN X0.here hx rfl (hb hby d2_0) rfl rfl zk) ?_
  refine Go.st (T' := s₁) (g' := (mkF m 2 #[.val (.ref a1), .val (.ref b)] [(.ref b), (.ref a1)])) (fun _ zk => XS.aloadN X0.here hx rfl (hb hby d2_1) rfl rfl zk) ?_
  refine Go.st (T' := s₁) (g' := (mkF m 3 #[.val (.ref a1), .val (.ref b)] [(.int (0 : Int32)), (.ref b), (.ref a1)])) (fun _ zk => XS.iconst X0.here hx rfl (hb hby d2_2) zk) ?_
  refine Go.st (T' := s₁) (g' := (mkF m 4 #[.val (.ref a1), .val (.ref b)] [(.ref b), (.int (0 : Int32)), (.ref b), (.ref a1)])) (fun _ zk => XS.aloadN X0.here hx rfl (hb hby d2_3) rfl rfl zk) ?_
  refine Go.st (T' := s₁) (g' := (mkF m 5 #[.val (.ref a1), .val (.ref b)] [(.int (2 : Int32)), (.int (0 : Int32)), (.ref b), (.ref a1)])) (fun _ zk => lenV X0 hx hZ e0 VC (g := (mkF m 4 #[.val (.ref a1), .val (.ref b)] [(.ref b), (.int (0 : Int32)), (.ref b), (.ref a1)])) rfl (rest := [(.int (0 : Int32)), (.ref b), (.ref a1)]) rfl (hb hby d2_4) zk) ?_
  refine Go.st (T' := s₁) (g' := (mkF m 6 #[.val (.ref a1), .val (.ref b)] [.null, (.int (2 : Int32)), (.int (0 : Int32)), (.ref b), (.ref a1)])) (fun _ zk => XS.aconstNull X0.here hx rfl (hb hby d2_5) zk) ?_
  refine Go.callSp (y := (⟨"java/lang/String", "<init>", "([CIILjava/lang/Void;)V"⟩ : MethodName)) (a := a1) X0 hx hZ hown e0 rfl (w12 hw) (w13 hw) (w7 hw) (w15 hw) (by decide) (argsL := [(.ref b), (.int (0 : Int32)), (.int (2 : Int32)), .null]) (rest := []) (W := 0) (rm_init4_2 l Z a0 hw [] a1 b kC zc c0 c1 h0 n0 Z0 O0 E0 g0 C0 V0 VC CS hz p0 p1) rfl (lenOf pd5 rfl) rfl (by rw [hml]; rfl) rfl (by show 2 * 0 + _ ≤ _; exact Nat.le_of_eq rfl) (by decide) (by decide) (by decide) (by decide) (hb hby d2_6) ?_
  intro v1 T1 h1 L1 X1 e1 q1
  obtain ⟨hv1, Nf1, K1, C1, t1, k1, ge1, F1, V1⟩ := q1
  subst hv1
  have N1 := Fr.app N0 Nf1
  show Go p.tables e below _ T1 (mkF m 9 #[.val (.ref a1), .val (.ref b)] [])
  refine Go.retV X1 hx hlk hret (hb hby d2_9) (by decide) (by decide) e1 ?_
  exact ⟨rfl, N1, ((Keep.refl h0 [a1]).trans K1 (allS (P := fun x => x ∈ [a1] ∨ h0.size ≤ x) (Or.inl (List.mem_of_getElem? (i := 0) rfl)) all0)), C1, t1, _, (Nat.le_trans (Nat.le_refl _) ge1), F1, V1⟩
theorem d1_0 : decode method_2_code 0 = .ok (.iload_n 0, 1) := by decide +kernel
theorem d1_1 : decode method_2_code 1 = .ok (.ifCond .ne 14, 3) := by decide +kernel
theorem d1_4 : decode method_2_code 4 = .ok (.new 7, 3) := by decide +kernel
theorem w5 {a0 : Array Value} {Z : State} (hw : ∀ d ∈ tables_1, d.before a0 Z = true) : ((Jvm.Cond.classLink "com/example/attestry/attestry/bundle/MessageTypeIsEmptyPinLaw" (7 : Nat) "java/lang/String")).before a0 Z = true := hw _ (List.mem_of_getElem? (i := 5) rfl)
theorem d1_7 : decode method_2_code 7 = .ok (.dup, 1) := by decide +kernel
theorem d1_8 : decode method_2_code 8 = .ok (.iconst 0, 1) := by decide +kernel
theorem d1_9 : decode method_2_code 9 = .ok (.newarray .char, 2) := by decide +kernel
theorem w8 {a0 : Array Value} {Z : State} (hw : ∀ d ∈ tables_1, d.before a0 Z = true) : ((Jvm.Cond.arrayClass Jvm.ClassFile.FieldType.char)).before a0 Z = true := hw _ (List.mem_of_getElem? (i := 8) rfl)
theorem w11 {a0 : Array Value} {Z : State} (hw : ∀ d ∈ tables_1, d.before a0 Z = true) : ((Jvm.Cond.code ({ cls := "java/lang/String", name := "<init>", desc := "([C)V" } : Jvm.MethodName) jdk_42_method_3_code (2 : Nat) (Option.none : Option Jvm.ClassFile.FieldType))).before a0 Z = true := hw _ (List.mem_of_getElem? (i := 11) rfl)
theorem pd10 : parseMethodDescriptor "([C)V" = some ⟨[(.array .char)], none⟩ := by decide +kernel
theorem d1_11 : decode method_2_code 11 = .ok (.invokespecial 9, 3) := by decide +kernel
theorem w9 {a0 : Array Value} {Z : State} (hw : ∀ d ∈ tables_1, d.before a0 Z = true) : ((Jvm.Cond.methodLink "com/example/attestry/attestry/bundle/MessageTypeIsEmptyPinLaw" (9 : Nat) ({ cls := "java/lang/String", name := "<init>", desc := "([C)V" } : Jvm.MethodName))).before a0 Z = true := hw _ (List.mem_of_getElem? (i := 9) rfl)
theorem w10 {a0 : Array Value} {Z : State} (hw : ∀ d ∈ tables_1, d.before a0 Z = true) : ((Jvm.Cond.instanceMethod ({ cls := "java/lang/String", name := "<init>", desc := "([C)V" } : Jvm.MethodName))).before a0 Z = true := hw _ (List.mem_of_getElem? (i := 10) rfl)
theorem d1_14 : decode method_2_code 14 = .ok (.areturn, 1) := by decide +kernel
def rr_draw_0 : Room := { frames := 3, cells := 6, slots := 12, locals := 43 }
theorem pn11 : plainName "com/example/attestry/attestry/bundle/MessageTypeIsEmptyPinLaw" = true := by first | (simp [plainName, overriddenIn]; done) | decide +kernel
set_option maxRecDepth 65536 in
set_option maxHeartbeats 40000000 in
theorem rm_draw_0 (l : Launch) (Z : State) (a0 : Array Value) (hw : ∀ d ∈ tables_1, d.before a0 Z = true) (ws : List Jvm.Cond) (x1 x2 zc : Int32) (h0 : Heap) (n0 : Nat) (Z0 : n0 ≤ h0.size) (O0 : Old Z n0 h0) (CS : Sta Z Z.heap "java/lang/String" "COMPACT_STRINGS" "Z" (.int zc)) (hz : ¬ zc = 0) :
    ConS l Z EL0 (⟨"com/example/attestry/attestry/bundle/MessageTypeIsEmptyPinLaw", "draw", "(III)Ljava/lang/String;"⟩ : MethodName) method_2_code 4 (some (.object "java/lang/String")) ws rr_draw_0 #[(.int (0 : Int32)), (.int x1), (.int x2)] h0 [] (fun v h L => ∃ (a t : Addr) (k : ClassId), v = some (.ref a) ∧ Fr n0 L ∧ Ext h0 h ∧ Exa Z h a "java/lang/String" ∧ Fld Z h a "java/lang/String" "value" "[B" (.ref t) ∧ Arv Z h t k .byte (0 : Int32) [] (.int (0 : Int32))) := by
  refine ConS.enter (plainFor_of_name pn11) ?_
  intro p e s m below meth c s₁ X0 hx hZ hby hml hret hlk hown hnm e0 hS hA hsf
  have N0 := Fr.nil n0
  have hEL := hEL0 hw
  have hSt := hSt0 hw
  refine Go.cast (g' := (mkF m 0 #[.val (.int (0 : Int32)), .val (.int x1), .val (.int x2), .unset] [])) (by first | rfl | (simp [entryFrame, mkF, argsToLocals, Value.category]; done)) ?_
  refine Go.st (T' := s₁) (g' := (mkF m 1 #[.val (.int (0 : Int32)), .val (.int x1), .val (.int x2), .unset] [(.int (0 : Int32))])) (fun _ zk => XS.iloadN X0.here hx rfl (hb hby d1_0) rfl zk) ?_
  refine Go.st (T' := s₁) (g' := (mkF m 4 #[.val (.int (0 : Int32)), .val (.int x1), .val (.int x2), .unset] [])) (fun _ zk => XS.ifNo X0.here hx rfl (hb hby d1_1) rfl ((if0 _ _).trans (teq (rfl : (0 : Int32) = (0 : Int32))).2) zk) ?_
  obtain ⟨T1, h1, X1, e1, E1, A1, D1, -, st1⟩ := newO X0 hx hZ hown (w5 hw) (w6 hw) (w7 hw) e0 (g := (mkF m 4 #[.val (.int (0 : Int32)), .val (.int x1), .val (.int x2), .unset] [])) rfl (hb hby d1_4) (by decide) (by decide)
  obtain ⟨b1, g1⟩ : ∃ z, z = h0.size := ⟨_, rfl⟩
  rw [← g1] at A1 D1 st1
  have F1_value : Fld Z h1 b1 "java/lang/String" "value" "[B" .null := D1 (Or.inr (w21 hw)) (ty := (.array .byte)) (by decide)
  have F1_coder : Fld Z h1 b1 "java/lang/String" "coder" "B" (.int (0 : Int32)) := D1 (Or.inr (w22 hw)) (ty := .byte) (by decide)
  refine Go.st (T' := T1) (g' := (mkF m 7 #[.val (.int (0 : Int32)), .val (.int x1), .val (.int x2), .unset] [(.ref b1)])) (fun _ zk => st1 _ zk) ?_
  refine Go.st (T' := T1) (g' := (mkF m 8 #[.val (.int (0 : Int32)), .val (.int x1), .val (.int x2), .unset] [(.ref b1), (.ref b1)])) (fun _ zk => XS.dup X1.here hx rfl (hb hby d1_7) rfl rfl zk) ?_
  refine Go.st (T' := T1) (g' := (mkF m 9 #[.val (.int (0 : Int32)), .val (.int x1), .val (.int x2), .unset] [(.int (0 : Int32)), (.ref b1), (.ref b1)])) (fun _ zk => XS.iconst X1.here hx rfl (hb hby d1_8) zk) ?_
  obtain ⟨T2, h2, k2, X2, e2, E2, A2, st2⟩ := newP (aty := .char) X1 hx hZ (w8 hw) e1 (g := (mkF m 9 #[.val (.int (0 : Int32)), .val (.int x1), .val (.int x2), .unset] [(.int (0 : Int32)), (.ref b1), (.ref b1)])) rfl (hb hby d1_9) rfl (by decide) (cap := 0) (by decide) (by decide) (by decide) (by decide)
  obtain ⟨b2, g2⟩ : ∃ z, z = h1.size := ⟨_, rfl⟩
  rw [← g2] at A2 st2
  have V2 : Arv Z h2 b2 k2 .char (0 : Int32) [] (.int (0 : Int32)) := (Arv.new A2 (by decide)).pad (pad_rep [] (.int (0 : Int32)) 0)
  refine Go.st (T' := T2) (g' := (mkF m 11 #[.val (.int (0 : Int32)), .val (.int x1), .val (.int x2), .unset] [(.ref b2), (.ref b1), (.ref b1)])) (fun _ zk => st2 _ zk) ?_
  have x3 : Ext h1 h2 := E2
  have f4 := A1.ext x3
  have f5 := F1_coder.ext x3
  have f6 := F1_value.ext x3
  have cr8 := (chrE hA E1)
  have cr9 := (chrE (chrE hA E1) E2)
  refine Go.callSpS (y := (⟨"java/lang/String", "<init>", "([C)V"⟩ : MethodName)) (a := b1) X2 hx hZ hown e2 hEL cr9.1 hS (Nat.le_trans (Nat.zero_le _) (Nat.le_trans E1.1 E2.1)) rfl (w9 hw) (w10 hw) (w7 hw) (w11 hw) (by decide) (argsL := [(.ref b2)]) (rest := [(.ref b1)]) (W := 1) (rm_init1_0 l Z a0 hw [] b1 b2 k2 h2 n0 (Nat.le_trans Z0 (Nat.le_trans E1.1 E2.1)) f4 (Nat.le_trans Z0 (Nat.le_trans (Nat.le_refl _) (Nat.le_of_eq g1.symm))) f5 f6 V2) (allS (P := fun x => x < h2.size ∧ Safe Z EL0 s.vm h2 x) ⟨(Nat.lt_of_lt_of_le A1.lt E2.1), (Safe.ext E2 (cr8).1 (Safe.ext E1 (hA).1 (Safe.new (Nat.le_of_eq g1.symm))))⟩ all0) rfl (lenOf pd10 rfl) rfl (by rw [hml]; rfl) rfl (by show 2 * 0 + _ ≤ _; exact Nat.le_of_eq rfl) (by decide) (by decide) (by decide) (by decide) (hb hby d1_11) ?_
  intro v7 T7 h7 L7 X7 e7 q7 hS hZ hown cr7
  obtain ⟨hv7, Nf7, K7, C7, t7, k7, F7, V7⟩ := q7
  subst hv7
  have N7 := Fr.app N0 Nf7
  have ca10 := cr9.trans cr7
  show Go p.tables e below _ T7 (mkF m 14 #[.val (.int (0 : Int32)), .val (.int x1), .val (.int x2), .unset] [(.ref b1)])
  have x11 : Ext h0 h7 := ((E1.tr E2).thenK K7 (allS (P := fun x => h0.size ≤ x) (Nat.le_of_eq g1.symm) all0))
  have f12 := (f4.keep K7)
  refine Go.retAS X7 hx hlk hS (Nat.le_refl _) ca10 hZ hEL hret rfl rfl (hb hby d1_14) (by decide) (by decide) e7 ?_
  exact ⟨_, _, _, rfl, N7, x11, f12, F7, V7⟩
theorem d1_15 : decode method_2_code 15 = .ok (.iload_n 0, 1) := by decide +kernel
theorem d1_16 : decode method_2_code 16 = .ok (.iconst 1, 1) := by decide +kernel
theorem d1_17 : decode method_2_code 17 = .ok (.if_icmp .ne 25, 3) := by decide +kernel
theorem d1_20 : decode method_2_code 20 = .ok (.iconst 1, 1) := by decide +kernel
theorem d1_21 : decode method_2_code 21 = .ok (.newarray .char, 2) := by decide +kernel
theorem d1_23 : decode method_2_code 23 = .ok (.astore_n 3, 1) := by decide +kernel
theorem d1_24 : decode method_2_code 24 = .ok (.aload_n 3, 1) := by decide +kernel
theorem d1_25 : decode method_2_code 25 = .ok (.iconst 0, 1) := by decide +kernel
theorem d1_26 : decode method_2_code 26 = .ok (.iload_n 1, 1) := by decide +kernel
theorem d1_27 : decode method_2_code 27 = .ok (.sipush 255, 3) := by decide +kernel
theorem d1_30 : decode method_2_code 30 = .ok (.iand, 1) := by decide +kernel
theorem d1_31 : decode method_2_code 31 = .ok (.i2c, 1) := by decide +kernel
theorem d1_32 : decode method_2_code 32 = .ok (.castore, 1) := by decide +kernel
theorem d1_33 : decode method_2_code 33 = .ok (.new 7, 3) := by decide +kernel
theorem d1_36 : decode method_2_code 36 = .ok (.dup, 1) := by decide +kernel
theorem d1_37 : decode method_2_code 37 = .ok (.aload_n 3, 1) := by decide +kernel
theorem d1_38 : decode method_2_code 38 = .ok (.invokespecial 9, 3) := by decide +kernel
theorem d1_41 : decode method_2_code 41 = .ok (.areturn, 1) := by decide +kernel
def rr_draw_1 : Room := { frames := 4, cells := 3, slots := 6, locals := 66 }
set_option maxRecDepth 65536 in
set_option maxHeartbeats 40000000 in
theorem rm_draw_1 (l : Launch) (Z : State) (a0 : Array Value) (hw : ∀ d ∈ tables_1, d.before a0 Z = true) (ws : List Jvm.Cond) (x1 x2 zc : Int32) (h0 : Heap) (n0 : Nat) (Z0 : n0 ≤ h0.size) (O0 : Old Z n0 h0) (CS : Sta Z Z.heap "java/lang/String" "COMPACT_STRINGS" "Z" (.int zc)) (hz : ¬ zc = 0) :
    Con l Z (⟨"com/example/attestry/attestry/bundle/MessageTypeIsEmptyPinLaw", "draw", "(III)Ljava/lang/String;"⟩ : MethodName) method_2_code 4 (some (.object "java/lang/String")) ws rr_draw_1 #[(.int (1 : Int32)), (.int x1), (.int x2)] h0 (fun v h L => ∃ (a t : Addr) (k : ClassId), ∃ (b0 : Int32), v = some (.ref a) ∧ Fr n0 L ∧ Ext h0 h ∧ Exa Z h a "java/lang/String" ∧ Fld Z h a "java/lang/String" "value" "[B" (.ref t) ∧ Arv Z h t k .byte (1 : Int32) [(.int b0)] (.int (0 : Int32))) := by
  refine Con.enter (plainFor_of_name pn11) ?_
  intro p e s m below meth c s₁ X0 hx hZ hby hml hret hlk hown hnm e0
  have N0 := Fr.nil n0
  refine Go.cast (g' := (mkF m 0 #[.val (.int (1 : Int32)), .val (.int x1), .val (.int x2), .unset] [])) (by first | rfl | (simp [entryFrame, mkF, argsToLocals, Value.category]; done)) ?_
  refine Go.st (T' := s₁) (g' := (mkF m 1 #[.val (.int (1 : Int32)), .val (.int x1), .val (.int x2), .unset] [(.int (1 : Int32))])) (fun _ zk => XS.iloadN X0.here hx rfl (hb hby d1_0) rfl zk) ?_
  refine Go.st (T' := s₁) (g' := (mkF m 15 #[.val (.int (1 : Int32)), .val (.int x1), .val (.int x2), .unset] [])) (fun _ zk => XS.ifYes X0.here hx rfl (pc0 := 1) (pc' := 15) rfl (hb hby d1_1) rfl ((if0 _ _).trans (feq ((by decide) : ¬ ((1 : Int32) = (0 : Int32)))).2) (by decide) (by decide) zk) ?_
  refine Go.st (T' := s₁) (g' := (mkF m 16 #[.val (.int (1 : Int32)), .val (.int x1), .val (.int x2), .unset] [(.int (1 : Int32))])) (fun _ zk => XS.iloadN X0.here hx rfl (hb hby d1_15) rfl zk) ?_
  refine Go.st (T' := s₁) (g' := (mkF m 17 #[.val (.int (1 : Int32)), .val (.int x1), .val (.int x2), .unset] [(.int (1 : Int32)), (.int (1 : Int32))])) (fun _ zk => XS.iconst X0.here hx rfl (hb hby d1_16) zk) ?_
  refine Go.st (T' := s₁) (g' := (mkF m 20 #[.val (.int (1 : Int32)), .val (.int x1), .val (.int x2), .unset] [])) (fun _ zk => XS.icmpNo X0.here hx rfl (hb hby d1_17) rfl (teq (rfl : (1 : Int32) = (1 : Int32))).2 zk) ?_
  refine Go.st (T' := s₁) (g' := (mkF m 21 #[.val (.int (1 : Int32)), .val (.int x1), .val (.int x2), .unset] [(.int (1 : Int32))])) (fun _ zk => XS.iconst X0.here hx rfl (hb hby d1_20) zk) ?_
  obtain ⟨T1, h1, k1, X1, e1, E1, A1, st1⟩ := newP (aty := .char) X0 hx hZ (w8 hw) e0 (g := (mkF m 21 #[.val (.int (1 : Int32)), .val (.int x1), .val (.int x2), .unset] [(.int (1 : Int32))])) rfl (hb hby d1_21) rfl (by decide) (cap := 1) (by decide) (by decide) (by decide) (by decide)
  obtain ⟨b1, g1⟩ : ∃ z, z = h0.size := ⟨_, rfl⟩
  rw [← g1] at A1 st1
  have V1 : Arv Z h1 b1 k1 .char (1 : Int32) [(.int (0 : Int32))] (.int (0 : Int32)) := (Arv.new A1 (by decide)).pad (pad_rep [] (.int (0 : Int32)) 1)
  refine Go.st (T' := T1) (g' := (mkF m 23 #[.val (.int (1 : Int32)), .val (.int x1), .val (.int x2), .unset] [(.ref b1)])) (fun _ zk => st1 _ zk) ?_
  refine Go.st (T' := T1) (g' := (mkF m 24 #[.val (.int (1 : Int32)), .val (.int x1), .val (.int x2), .val (.ref b1)] [])) (fun _ zk => XS.astoreN X1.here hx rfl (hb hby d1_23) rfl rfl (l' := #[.val (.int (1 : Int32)), .val (.int x1), .val (.int x2), .val (.ref b1)]) rfl zk) ?_
  refine Go.st (T' := T1) (g' := (mkF m 25 #[.val (.int (1 : Int32)), .val (.int x1), .val (.int x2), .val (.ref b1)] [(.ref b1)])) (fun _ zk => XS.aloadN X1.here hx rfl (hb hby d1_24) rfl rfl zk) ?_
  refine Go.st (T' := T1) (g' := (mkF m 26 #[.val (.int (1 : Int32)), .val (.int x1), .val (.int x2), .val (.ref b1)] [(.int (0 : Int32)), (.ref b1)])) (fun _ zk => XS.iconst X1.here hx rfl (hb hby d1_25) zk) ?_
  refine Go.st (T' := T1) (g' := (mkF m 27 #[.val (.int (1 : Int32)), .val (.int x1), .val (.int x2), .val (.ref b1)] [(.int x1), (.int (0 : Int32)), (.ref b1)])) (fun _ zk => XS.iloadN X1.here hx rfl (hb hby d1_26) rfl zk) ?_
  refine Go.st (T' := T1) (g' := (mkF m 30 #[.val (.int (1 : Int32)), .val (.int x1), .val (.int x2), .val (.ref b1)] [(.int (255 : Int32)), (.int x1), (.int (0 : Int32)), (.ref b1)])) (fun _ zk => XS.sipush X1.here hx rfl (hb hby d1_27) zk) ?_
  refine Go.st (T' := T1) (g' := (mkF m 31 #[.val (.int (1 : Int32)), .val (.int x1), .val (.int x2), .val (.ref b1)] [(.int (x1 &&& (255 : Int32))), (.int (0 : Int32)), (.ref b1)])) (fun _ zk => XS.iand X1.here hx rfl (hb hby d1_30) rfl zk) ?_
  refine Go.st (T' := T1) (g' := (mkF m 32 #[.val (.int (1 : Int32)), .val (.int x1), .val (.int x2), .val (.ref b1)] [(.int ((x1 &&& (255 : Int32)).toUInt32.toUInt16.toUInt32.toInt32)), (.int (0 : Int32)), (.ref b1)])) (fun _ zk => XS.i2c X1.here hx rfl (hb hby d1_31) rfl zk) ?_
  obtain ⟨c0, hc0⟩ : ∃ c, c = ((x1 &&& (255 : Int32)).toUInt32.toUInt16.toUInt32.toInt32) := ⟨_, rfl⟩
  rw [← hc0]
  have hq0 := and255 x1
  rw [← hc0] at hq0
  obtain ⟨T2, h2, X2, e2, W2, V2, st2⟩ := stCV X1 hx hZ e1 V1 (j := (0 : Int32)) (i := 0) (by decide) rfl (Nat.le_of_ble_eq_true rfl) (g := (mkF m 32 #[.val (.int (1 : Int32)), .val (.int x1), .val (.int x2), .val (.ref b1)] [(.int c0), (.int (0 : Int32)), (.ref b1)])) rfl rfl (hb hby d1_32)
  rw [nar_cid (x := c0) ⟨hq0.1, by omega⟩] at V2
  have V2' : Arv Z h2 b1 k1 .char (1 : Int32) [(.int c0)] (.int (0 : Int32)) := V2
  have N2 := Fr.snoc X2 N0 (Nat.le_trans Z0 (Nat.le_trans (Nat.le_refl _) (Nat.le_of_eq g1.symm)))
  refine Go.st (T' := T2) (g' := (mkF m 33 #[.val (.int (1 : Int32)), .val (.int x1), .val (.int x2), .val (.ref b1)] [])) (fun _ zk => st2 _ zk) ?_
  obtain ⟨T3, h3, X3, e3, E3, A3, D3, -, st3⟩ := newO X2 hx hZ hown (w5 hw) (w6 hw) (w7 hw) e2 (g := (mkF m 33 #[.val (.int (1 : Int32)), .val (.int x1), .val (.int x2), .val (.ref b1)] [])) rfl (hb hby d1_33) (by decide) (by decide)
  obtain ⟨b3, g3⟩ : ∃ z, z = h2.size := ⟨_, rfl⟩
  rw [← g3] at A3 D3 st3
  have F3_value : Fld Z h3 b3 "java/lang/String" "value" "[B" .null := D3 (Or.inr (w21 hw)) (ty := (.array .byte)) (by decide)
  have F3_coder : Fld Z h3 b3 "java/lang/String" "coder" "B" (.int (0 : Int32)) := D3 (Or.inr (w22 hw)) (ty := .byte) (by decide)
  refine Go.st (T' := T3) (g' := (mkF m 36 #[.val (.int (1 : Int32)), .val (.int x1), .val (.int x2), .val (.ref b1)] [(.ref b3)])) (fun _ zk => st3 _ zk) ?_
  refine Go.st (T' := T3) (g' := (mkF m 37 #[.val (.int (1 : Int32)), .val (.int x1), .val (.int x2), .val (.ref b1)] [(.ref b3), (.ref b3)])) (fun _ zk => XS.dup X3.here hx rfl (hb hby d1_36) rfl rfl zk) ?_
  refine Go.st (T' := T3) (g' := (mkF m 38 #[.val (.int (1 : Int32)), .val (.int x1), .val (.int x2), .val (.ref b1)] [(.ref b1), (.ref b3), (.ref b3)])) (fun _ zk => XS.aloadN X3.here hx rfl (hb hby d1_37) rfl rfl zk) ?_
  have x4 : Ext h2 h3 := E3
  have f5 := V2'.ext x4
  have x7 : Ext h0 h3 := ((E1.thenW W2 (Nat.le_of_eq g1.symm)).tr E3)
  have f8 := O0.ext x7
  refine Go.callSp (y := (⟨"java/lang/String", "<init>", "([C)V"⟩ : MethodName)) (a := b3) X3 hx hZ hown e3 rfl (w9 hw) (w10 hw) (w7 hw) (w11 hw) (by decide) (argsL := [(.ref b1)]) (rest := [(.ref b3)]) (W := 1) (rm_init1_1 l Z a0 hw [] b3 b1 k1 zc c0 h3 n0 (Nat.le_trans Z0 (Nat.le_trans (Nat.le_trans E1.1 (Keep.of_wr W2).1) E3.1)) f8 A3 (Nat.le_trans Z0 (Nat.le_trans (Nat.le_trans E1.1 (Keep.of_wr W2).1) (Nat.le_of_eq g3.symm))) F3_coder F3_value f5 CS hz (le255 hq0)) rfl (lenOf pd10 rfl) rfl (by rw [hml]; rfl) rfl (by show 2 * 0 + _ ≤ _; exact Nat.le_of_eq rfl) (by decide) (by decide) (by decide) (by decide) (hb hby d1_38) ?_
  intro v6 T6 h6 L6 X6 e6 q6
  obtain ⟨hv6, Nf6, K6, C6, t6, k6, ge6, F6, V6⟩ := q6
  subst hv6
  have N6 := Fr.app N2 Nf6
  show Go p.tables e below _ T6 (mkF m 41 #[.val (.int (1 : Int32)), .val (.int x1), .val (.int x2), .val (.ref b1)] [(.ref b3)])
  have x9 : Ext h0 h6 := (x7.thenK K6 (allS (P := fun x => h0.size ≤ x) (Nat.le_trans (Nat.le_trans E1.1 (Keep.of_wr W2).1) (Nat.le_of_eq g3.symm)) all0))
  have f10 := (A3.keep K6)
  refine Go.retA X6 hx hlk hret rfl rfl (hb hby d1_41) (by decide) (by decide) e6 ?_
  exact ⟨_, _, _, _, rfl, N6, x9, f10, F6, V6⟩
theorem d1_42 : decode method_2_code 42 = .ok (.iconst 2, 1) := by decide +kernel
theorem d1_43 : decode method_2_code 43 = .ok (.newarray .char, 2) := by decide +kernel
theorem d1_45 : decode method_2_code 45 = .ok (.astore_n 3, 1) := by decide +kernel
theorem d1_46 : decode method_2_code 46 = .ok (.aload_n 3, 1) := by decide +kernel
theorem d1_47 : decode method_2_code 47 = .ok (.iconst 0, 1) := by decide +kernel
theorem d1_48 : decode method_2_code 48 = .ok (.iload_n 1, 1) := by decide +kernel
theorem d1_49 : decode method_2_code 49 = .ok (.sipush 255, 3) := by decide +kernel
theorem d1_52 : decode method_2_code 52 = .ok (.iand, 1) := by decide +kernel
theorem d1_53 : decode method_2_code 53 = .ok (.i2c, 1) := by decide +kernel
theorem d1_54 : decode method_2_code 54 = .ok (.castore, 1) := by decide +kernel
theorem d1_55 : decode method_2_code 55 = .ok (.aload_n 3, 1) := by decide +kernel
theorem d1_56 : decode method_2_code 56 = .ok (.iconst 1, 1) := by decide +kernel
theorem d1_57 : decode method_2_code 57 = .ok (.iload_n 2, 1) := by decide +kernel
theorem d1_58 : decode method_2_code 58 = .ok (.sipush 255, 3) := by decide +kernel
theorem d1_61 : decode method_2_code 61 = .ok (.iand, 1) := by decide +kernel
theorem d1_62 : decode method_2_code 62 = .ok (.i2c, 1) := by decide +kernel
theorem d1_63 : decode method_2_code 63 = .ok (.castore, 1) := by decide +kernel
theorem d1_64 : decode method_2_code 64 = .ok (.new 7, 3) := by decide +kernel
theorem d1_67 : decode method_2_code 67 = .ok (.dup, 1) := by decide +kernel
theorem d1_68 : decode method_2_code 68 = .ok (.aload_n 3, 1) := by decide +kernel
theorem d1_69 : decode method_2_code 69 = .ok (.invokespecial 9, 3) := by decide +kernel
theorem d1_72 : decode method_2_code 72 = .ok (.areturn, 1) := by decide +kernel
def rr_draw_2 : Room := { frames := 4, cells := 3, slots := 8, locals := 66 }
set_option maxRecDepth 65536 in
set_option maxHeartbeats 40000000 in
theorem rm_draw_2 (l : Launch) (Z : State) (a0 : Array Value) (hw : ∀ d ∈ tables_1, d.before a0 Z = true) (ws : List Jvm.Cond) (x1 x2 zc : Int32) (h0 : Heap) (n0 : Nat) (Z0 : n0 ≤ h0.size) (O0 : Old Z n0 h0) (CS : Sta Z Z.heap "java/lang/String" "COMPACT_STRINGS" "Z" (.int zc)) (hz : ¬ zc = 0) :
    Con l Z (⟨"com/example/attestry/attestry/bundle/MessageTypeIsEmptyPinLaw", "draw", "(III)Ljava/lang/String;"⟩ : MethodName) method_2_code 4 (some (.object "java/lang/String")) ws rr_draw_2 #[(.int (2 : Int32)), (.int x1), (.int x2)] h0 (fun v h L => ∃ (a t : Addr) (k : ClassId), ∃ (b0 b1 : Int32), v = some (.ref a) ∧ Fr n0 L ∧ Ext h0 h ∧ Exa Z h a "java/lang/String" ∧ Fld Z h a "java/lang/String" "value" "[B" (.ref t) ∧ Arv Z h t k .byte (2 : Int32) [(.int b0), (.int b1)] (.int (0 : Int32))) := by
  refine Con.enter (plainFor_of_name pn11) ?_
  intro p e s m below meth c s₁ X0 hx hZ hby hml hret hlk hown hnm e0
  have N0 := Fr.nil n0
  refine Go.cast (g' := (mkF m 0 #[.val (.int (2 : Int32)), .val (.int x1), .val (.int x2), .unset] [])) (by first | rfl | (simp [entryFrame, mkF, argsToLocals, Value.category]; done)) ?_
  refine Go.st (T' := s₁) (g' := (mkF m 1 #[.val (.int (2 : Int32)), .val (.int x1), .val (.int x2), .unset] [(.int (2 : Int32))])) (fun _ zk => XS.iloadN X0.here hx rfl (hb hby d1_0) rfl zk) ?_
  refine Go.st (T' := s₁) (g' := (mkF m 15 #[.val (.int (2 : Int32)), .val (.int x1), .val (.int x2), .unset] [])) (fun _ zk => XS.ifYes X0.here hx rfl (pc0 := 1) (pc' := 15) rfl (hb hby d1_1) rfl ((if0 _ _).trans (feq ((by decide) : ¬ ((2 : Int32) = (0 : Int32)))).2) (by decide) (by decide) zk) ?_
  refine Go.st (T' := s₁) (g' := (mkF m 16 #[.val (.int (2 : Int32)), .val (.int x1), .val (.int x2), .unset] [(.int (2 : Int32))])) (fun _ zk => XS.iloadN X0.here hx rfl (hb hby d1_15) rfl zk) ?_
  refine Go.st (T' := s₁) (g' := (mkF m 17 #[.val (.int (2 : Int32)), .val (.int x1), .val (.int x2), .unset] [(.int (1 : Int32)), (.int (2 : Int32))])) (fun _ zk => XS.iconst X0.here hx rfl (hb hby d1_16) zk) ?_
  refine Go.st (T' := s₁) (g' := (mkF m 42 #[.val (.int (2 : Int32)), .val (.int x1), .val (.int x2), .unset] [])) (fun _ zk => XS.icmpYes X0.here hx rfl (pc0 := 17) (pc' := 42) rfl (hb hby d1_17) rfl (feq ((by decide) : ¬ ((2 : Int32) = (1 : Int32)))).2 (by decide) (by decide) zk) ?_
  refine Go.st (T' := s₁) (g' := (mkF m 43 #[.val (.int (2 : Int32)), .val (.int x1), .val (.int x2), .unset] [(.int (2 : Int32))])) (fun _ zk => XS.iconst X0.here hx rfl (hb hby d1_42) zk) ?_
  obtain ⟨T1, h1, k1, X1, e1, E1, A1, st1⟩ := newP (aty := .char) X0 hx hZ (w8 hw) e0 (g := (mkF m 43 #[.val (.int (2 : Int32)), .val (.int x1), .val (.int x2), .unset] [(.int (2 : Int32))])) rfl (hb hby d1_43) rfl (by decide) (cap := 2) (by decide) (by decide) (by decide) (by decide)
  obtain ⟨b1, g1⟩ : ∃ z, z = h0.size := ⟨_, rfl⟩
  rw [← g1] at A1 st1
  have V1 : Arv Z h1 b1 k1 .char (2 : Int32) [(.int (0 : Int32)), (.int (0 : Int32))] (.int (0 : Int32)) := (Arv.new A1 (by decide)).pad (pad_rep [] (.int (0 : Int32)) 2)
  refine Go.st (T' := T1) (g' := (mkF m 45 #[.val (.int (2 : Int32)), .val (.int x1), .val (.int x2), .unset] [(.ref b1)])) (fun _ zk => st1 _ zk) ?_
  refine Go.st (T' := T1) (g' := (mkF m 46 #[.val (.int (2 : Int32)), .val (.int x1), .val (.int x2), .val (.ref b1)] [])) (fun _ zk => XS.astoreN X1.here hx rfl (hb hby d1_45) rfl rfl (l' := #[.val (.int (2 : Int32)), .val (.int x1), .val (.int x2), .val (.ref b1)]) rfl zk) ?_
  refine Go.st (T' := T1) (g' := (mkF m 47 #[.val (.int (2 : Int32)), .val (.int x1), .val (.int x2), .val (.ref b1)] [(.ref b1)])) (fun _ zk => XS.aloadN X1.here hx rfl (hb hby d1_46) rfl rfl zk) ?_
  refine Go.st (T' := T1) (g' := (mkF m 48 #[.val (.int (2 : Int32)), .val (.int x1), .val (.int x2), .val (.ref b1)] [(.int (0 : Int32)), (.ref b1)])) (fun _ zk => XS.iconst X1.here hx rfl (hb hby d1_47) zk) ?_
  refine Go.st (T' := T1) (g' := (mkF m 49 #[.val (.int (2 : Int32)), .val (.int x1), .val (.int x2), .val (.ref b1)] [(.int x1), (.int (0 : Int32)), (.ref b1)])) (fun _ zk => XS.iloadN X1.here hx rfl (hb hby d1_48) rfl zk) ?_
  refine Go.st (T' := T1) (g' := (mkF m 52 #[.val (.int (2 : Int32)), .val (.int x1), .val (.int x2), .val (.ref b1)] [(.int (255 : Int32)), (.int x1), (.int (0 : Int32)), (.ref b1)])) (fun _ zk => XS.sipush X1.here hx rfl (hb hby d1_49) zk) ?_
  refine Go.st (T' := T1) (g' := (mkF m 53 #[.val (.int (2 : Int32)), .val (.int x1), .val (.int x2), .val (.ref b1)] [(.int (x1 &&& (255 : Int32))), (.int (0 : Int32)), (.ref b1)])) (fun _ zk => XS.iand X1.here hx rfl (hb hby d1_52) rfl zk) ?_
  refine Go.st (T' := T1) (g' := (mkF m 54 #[.val (.int (2 : Int32)), .val (.int x1), .val (.int x2), .val (.ref b1)] [(.int ((x1 &&& (255 : Int32)).toUInt32.toUInt16.toUInt32.toInt32)), (.int (0 : Int32)), (.ref b1)])) (fun _ zk => XS.i2c X1.here hx rfl (hb hby d1_53) rfl zk) ?_
  obtain ⟨c0, hc0⟩ : ∃ c, c = ((x1 &&& (255 : Int32)).toUInt32.toUInt16.toUInt32.toInt32) := ⟨_, rfl⟩
  rw [← hc0]
  have hq0 := and255 x1
  rw [← hc0] at hq0
  obtain ⟨T2, h2, X2, e2, W2, V2, st2⟩ := stCV X1 hx hZ e1 V1 (j := (0 : Int32)) (i := 0) (by decide) rfl (Nat.le_of_ble_eq_true rfl) (g := (mkF m 54 #[.val (.int (2 : Int32)), .val (.int x1), .val (.int x2), .val (.ref b1)] [(.int c0), (.int (0 : Int32)), (.ref b1)])) rfl rfl (hb hby d1_54)
  rw [nar_cid (x := c0) ⟨hq0.1, by omega⟩] at V2
  have V2' : Arv Z h2 b1 k1 .char (2 : Int32) [(.int c0), (.int (0 : Int32))] (.int (0 : Int32)) := V2
  have N2 := Fr.snoc X2 N0 (Nat.le_trans Z0 (Nat.le_trans (Nat.le_refl _) (Nat.le_of_eq g1.symm)))
  refine Go.st (T' := T2) (g' := (mkF m 55 #[.val (.int (2 : Int32)), .val (.int x1), .val (.int x2), .val (.ref b1)] [])) (fun _ zk => st2 _ zk) ?_
  refine Go.st (T' := T2) (g' := (mkF m 56 #[.val (.int (2 : Int32)), .val (.int x1), .val (.int x2), .val (.ref b1)] [(.ref b1)])) (fun _ zk => XS.aloadN X2.here hx rfl (hb hby d1_55) rfl rfl zk) ?_
  refine Go.st (T' := T2) (g' := (mkF m 57 #[.val (.int (2 : Int32)), .val (.int x1), .val (.int x2), .val (.ref b1)] [(.int (1 : Int32)), (.ref b1)])) (fun _ zk => XS.iconst X2.here hx rfl (hb hby d1_56) zk) ?_
  refine Go.st (T' := T2) (g' := (mkF m 58 #[.val (.int (2 : Int32)), .val (.int x1), .val (.int x2), .val (.ref b1)] [(.int x2), (.int (1 : Int32)), (.ref b1)])) (fun _ zk => XS.iloadN X2.here hx rfl (hb hby d1_57) rfl zk) ?_
  refine Go.st (T' := T2) (g' := (mkF m 61 #[.val (.int (2 : Int32)), .val (.int x1), .val (.int x2), .val (.ref b1)] [(.int (255 : Int32)), (.int x2), (.int (1 : Int32)), (.ref b1)])) (fun _ zk => XS.sipush X2.here hx rfl (hb hby d1_58) zk) ?_
  refine Go.st (T' := T2) (g' := (mkF m 62 #[.val (.int (2 : Int32)), .val (.int x1), .val (.int x2), .val (.ref b1)] [(.int (x2 &&& (255 : Int32))), (.int (1 : Int32)), (.ref b1)])) (fun _ zk => XS.iand X2.here hx rfl (hb hby d1_61) rfl zk) ?_
  refine Go.st (T' := T2) (g' := (mkF m 63 #[.val (.int (2 : Int32)), .val (.int x1), .val (.int x2), .val (.ref b1)] [(.int ((x2 &&& (255 : Int32)).toUInt32.toUInt16.toUInt32.toInt32)), (.int (1 : Int32)), (.ref b1)])) (fun _ zk => XS.i2c X2.here hx rfl (hb hby d1_62) rfl zk) ?_
  obtain ⟨c1, hc1⟩ : ∃ c, c = ((x2 &&& (255 : Int32)).toUInt32.toUInt16.toUInt32.toInt32) := ⟨_, rfl⟩
  rw [← hc1]
  have hq1 := and255 x2
  rw [← hc1] at hq1
  obtain ⟨T3, h3, X3, e3, W3, V3, st3⟩ := stCV X2 hx hZ e2 V2' (j := (1 : Int32)) (i := 1) (by decide) rfl (Nat.le_of_ble_eq_true rfl) (g := (mkF m 63 #[.val (.int (2 : Int32)), .val (.int x1), .val (.int x2), .val (.ref b1)] [(.int c1), (.int (1 : Int32)), (.ref b1)])) rfl rfl (hb hby d1_63)
  rw [nar_cid (x := c1) ⟨hq1.1, by omega⟩] at V3
  have V3' : Arv Z h3 b1 k1 .char (2 : Int32) [(.int c0), (.int c1)] (.int (0 : Int32)) := V3
  have N3 := Fr.snoc X3 N2 (Nat.le_trans Z0 (Nat.le_trans (Nat.le_refl _) (Nat.le_of_eq g1.symm)))
  refine Go.st (T' := T3) (g' := (mkF m 64 #[.val (.int (2 : Int32)), .val (.int x1), .val (.int x2), .val (.ref b1)] [])) (fun _ zk => st3 _ zk) ?_
  obtain ⟨T4, h4, X4, e4, E4, A4, D4, -, st4⟩ := newO X3 hx hZ hown (w5 hw) (w6 hw) (w7 hw) e3 (g := (mkF m 64 #[.val (.int (2 : Int32)), .val (.int x1), .val (.int x2), .val (.ref b1)] [])) rfl (hb hby d1_64) (by decide) (by decide)
  obtain ⟨b4, g4⟩ : ∃ z, z = h3.size := ⟨_, rfl⟩
  rw [← g4] at A4 D4 st4
  have F4_value : Fld Z h4 b4 "java/lang/String" "value" "[B" .null := D4 (Or.inr (w21 hw)) (ty := (.array .byte)) (by decide)
  have F4_coder : Fld Z h4 b4 "java/lang/String" "coder" "B" (.int (0 : Int32)) := D4 (Or.inr (w22 hw)) (ty := .byte) (by decide)
  refine Go.st (T' := T4) (g' := (mkF m 67 #[.val (.int (2 : Int32)), .val (.int x1), .val (.int x2), .val (.ref b1)] [(.ref b4)])) (fun _ zk => st4 _ zk) ?_
  refine Go.st (T' := T4) (g' := (mkF m 68 #[.val (.int (2 : Int32)), .val (.int x1), .val (.int x2), .val (.ref b1)] [(.ref b4), (.ref b4)])) (fun _ zk => XS.dup X4.here hx rfl (hb hby d1_67) rfl rfl zk) ?_
  refine Go.st (T' := T4) (g' := (mkF m 69 #[.val (.int (2 : Int32)), .val (.int x1), .val (.int x2), .val (.ref b1)] [(.ref b1), (.ref b4), (.ref b4)])) (fun _ zk => XS.aloadN X4.here hx rfl (hb hby d1_68) rfl rfl zk) ?_
  have x5 : Ext h3 h4 := E4
  have f6 := V3'.ext x5
  have x8 : Ext h0 h4 := (((E1.thenW W2 (Nat.le_of_eq g1.symm)).thenW W3 (Nat.le_of_eq g1.symm)).tr E4)
  have f9 := O0.ext x8
  refine Go.callSp (y := (⟨"java/lang/String", "<init>", "([C)V"⟩ : MethodName)) (a := b4) X4 hx hZ hown e4 rfl (w9 hw) (w10 hw) (w7 hw) (w11 hw) (by decide) (argsL := [(.ref b1)]) (rest := [(.ref b4)]) (W := 1) (rm_init1_2 l Z a0 hw [] b4 b1 k1 zc c0 c1 h4 n0 (Nat.le_trans Z0 (Nat.le_trans (Nat.le_trans (Nat.le_trans E1.1 (Keep.of_wr W2).1) (Keep.of_wr W3).1) E4.1)) f9 A4 (Nat.le_trans Z0 (Nat.le_trans (Nat.le_trans (Nat.le_trans E1.1 (Keep.of_wr W2).1) (Keep.of_wr W3).1) (Nat.le_of_eq g4.symm))) F4_coder F4_value f6 CS hz (le255 hq0) (le255 hq1)) rfl (lenOf pd10 rfl) rfl (by rw [hml]; rfl) rfl (by show 2 * 0 + _ ≤ _; exact Nat.le_of_eq rfl) (by decide) (by decide) (by decide) (by decide) (hb hby d1_69) ?_
  intro v7 T7 h7 L7 X7 e7 q7
  obtain ⟨hv7, Nf7, K7, C7, t7, k7, ge7, F7, V7⟩ := q7
  subst hv7
  have N7 := Fr.app N3 Nf7
  show Go p.tables e below _ T7 (mkF m 72 #[.val (.int (2 : Int32)), .val (.int x1), .val (.int x2), .val (.ref b1)] [(.ref b4)])
  have x10 : Ext h0 h7 := (x8.thenK K7 (allS (P := fun x => h0.size ≤ x) (Nat.le_trans (Nat.le_trans (Nat.le_trans E1.1 (Keep.of_wr W2).1) (Keep.of_wr W3).1) (Nat.le_of_eq g4.symm)) all0))
  have f11 := (A4.keep K7)
  refine Go.retA X7 hx hlk hret rfl rfl (hb hby d1_72) (by decide) (by decide) e7 ?_
  exact ⟨_, _, _, _, _, rfl, N7, x10, f11, F7, V7⟩
theorem own_mod3 (x : Int32) : ((x &&& 2147483647) % 3) = 0 ∨ ((x &&& 2147483647) % 3) = 1 ∨ ((x &&& 2147483647) % 3) = 2 := by
  have h := c_mask x 2147483647 31 (by decide) (by decide)
  have h1 := (c_irem (x &&& 2147483647) 3 3 (by decide)).1 (by omega)
  have e : ∀ k : Int32, ((x &&& 2147483647) % 3).toInt = k.toInt → ((x &&& 2147483647) % 3) = k := fun k q => Int32.toInt_inj.mp q
  have h2 : ((x &&& 2147483647) % 3).toInt = 0 ∨ ((x &&& 2147483647) % 3).toInt = 1 ∨ ((x &&& 2147483647) % 3).toInt = 2 := by omega
  rcases h2 with q | q | q
  · exact (Or.inl (e 0 q))
  · exact (Or.inr (Or.inl (e 1 q)))
  · exact (Or.inr (Or.inr (e 2 q)))
theorem w0 {a0 : Array Value} {Z : State} (hw : ∀ d ∈ tables_1, d.before a0 Z = true) : ((Jvm.Cond.constant "com/example/attestry/attestry/bundle/MessageTypeIsEmptyPinLaw" (12 : Nat) (2147483647 : Int32))).before a0 Z = true := hw _ (List.mem_of_getElem? (i := 0) rfl)
theorem w4 {a0 : Array Value} {Z : State} (hw : ∀ d ∈ tables_1, d.before a0 Z = true) : ((Jvm.Cond.code ({ cls := "com/example/attestry/attestry/bundle/MessageTypeIsEmptyPinLaw", name := "draw", desc := "(III)Ljava/lang/String;" } : Jvm.MethodName) method_2_code (4 : Nat) (Option.some (Jvm.ClassFile.FieldType.object "java/lang/String")))).before a0 Z = true := hw _ (List.mem_of_getElem? (i := 4) rfl)
theorem w3 {a0 : Array Value} {Z : State} (hw : ∀ d ∈ tables_1, d.before a0 Z = true) : ((Jvm.Cond.initialized "com/example/attestry/attestry/bundle/MessageTypeIsEmptyPinLaw")).before a0 Z = true := hw _ (List.mem_of_getElem? (i := 3) rfl)
theorem pd12 : parseMethodDescriptor "(III)Ljava/lang/String;" = some ⟨[.int, .int, .int], some (.object "java/lang/String")⟩ := by decide +kernel
theorem w1 {a0 : Array Value} {Z : State} (hw : ∀ d ∈ tables_1, d.before a0 Z = true) : ((Jvm.Cond.methodLink "com/example/attestry/attestry/bundle/MessageTypeIsEmptyPinLaw" (13 : Nat) ({ cls := "com/example/attestry/attestry/bundle/MessageTypeIsEmptyPinLaw", name := "draw", desc := "(III)Ljava/lang/String;" } : Jvm.MethodName))).before a0 Z = true := hw _ (List.mem_of_getElem? (i := 1) rfl)
theorem w2 {a0 : Array Value} {Z : State} (hw : ∀ d ∈ tables_1, d.before a0 Z = true) : ((Jvm.Cond.static ({ cls := "com/example/attestry/attestry/bundle/MessageTypeIsEmptyPinLaw", name := "draw", desc := "(III)Ljava/lang/String;" } : Jvm.MethodName))).before a0 Z = true := hw _ (List.mem_of_getElem? (i := 2) rfl)
theorem w27 {a0 : Array Value} {Z : State} (hw : ∀ d ∈ tables_1, d.before a0 Z = true) : ((Jvm.Cond.classLink "com/example/attestry/attestry/bundle/MessageTypeIsEmptyPinLaw" (19 : Nat) "com/example/attestry/attestry/bundle/MessageType")).before a0 Z = true := hw _ (List.mem_of_getElem? (i := 27) rfl)
theorem w29 {a0 : Array Value} {Z : State} (hw : ∀ d ∈ tables_1, d.before a0 Z = true) : ((Jvm.Cond.initialized "com/example/attestry/attestry/bundle/MessageType")).before a0 Z = true := hw _ (List.mem_of_getElem? (i := 29) rfl)
theorem w32 {a0 : Array Value} {Z : State} (hw : ∀ d ∈ tables_1, d.before a0 Z = true) : ((Jvm.Cond.code ({ cls := "com/example/attestry/attestry/bundle/MessageType", name := "<init>", desc := "(Ljava/lang/String;Ljava/lang/String;)V" } : Jvm.MethodName) prog_32_method_1_code (3 : Nat) (Option.none : Option Jvm.ClassFile.FieldType))).before a0 Z = true := hw _ (List.mem_of_getElem? (i := 32) rfl)
theorem pd13 : parseMethodDescriptor "(Ljava/lang/String;Ljava/lang/String;)V" = some ⟨[(.object "java/lang/String"), (.object "java/lang/String")], none⟩ := by decide +kernel
theorem w30 {a0 : Array Value} {Z : State} (hw : ∀ d ∈ tables_1, d.before a0 Z = true) : ((Jvm.Cond.methodLink "com/example/attestry/attestry/bundle/MessageTypeIsEmptyPinLaw" (21 : Nat) ({ cls := "com/example/attestry/attestry/bundle/MessageType", name := "<init>", desc := "(Ljava/lang/String;Ljava/lang/String;)V" } : Jvm.MethodName))).before a0 Z = true := hw _ (List.mem_of_getElem? (i := 30) rfl)
theorem w31 {a0 : Array Value} {Z : State} (hw : ∀ d ∈ tables_1, d.before a0 Z = true) : ((Jvm.Cond.instanceMethod ({ cls := "com/example/attestry/attestry/bundle/MessageType", name := "<init>", desc := "(Ljava/lang/String;Ljava/lang/String;)V" } : Jvm.MethodName))).before a0 Z = true := hw _ (List.mem_of_getElem? (i := 31) rfl)
theorem w47 {a0 : Array Value} {Z : State} (hw : ∀ d ∈ tables_1, d.before a0 Z = true) : ((Jvm.Cond.code ({ cls := "com/example/attestry/attestry/bundle/MessageType", name := "isEmpty", desc := "()Z" } : Jvm.MethodName) prog_32_method_3_code (1 : Nat) (Option.some Jvm.ClassFile.FieldType.boolean))).before a0 Z = true := hw _ (List.mem_of_getElem? (i := 47) rfl)
theorem w46 {a0 : Array Value} {Z : State} (hw : ∀ d ∈ tables_1, d.before a0 Z = true) : ((Jvm.Cond.selects "com/example/attestry/attestry/bundle/MessageType" ({ cls := "com/example/attestry/attestry/bundle/MessageType", name := "isEmpty", desc := "()Z" } : Jvm.MethodName) ({ cls := "com/example/attestry/attestry/bundle/MessageType", name := "isEmpty", desc := "()Z" } : Jvm.MethodName))).before a0 Z = true := hw _ (List.mem_of_getElem? (i := 46) rfl)
theorem w45 {a0 : Array Value} {Z : State} (hw : ∀ d ∈ tables_1, d.before a0 Z = true) : ((Jvm.Cond.instanceMethod ({ cls := "com/example/attestry/attestry/bundle/MessageType", name := "isEmpty", desc := "()Z" } : Jvm.MethodName))).before a0 Z = true := hw _ (List.mem_of_getElem? (i := 45) rfl)
theorem w43 {a0 : Array Value} {Z : State} (hw : ∀ d ∈ tables_1, d.before a0 Z = true) : ((Jvm.Cond.methodLink "com/example/attestry/attestry/bundle/MessageTypeIsEmptyPinLaw" (24 : Nat) ({ cls := "com/example/attestry/attestry/bundle/MessageType", name := "isEmpty", desc := "()Z" } : Jvm.MethodName))).before a0 Z = true := hw _ (List.mem_of_getElem? (i := 43) rfl)
theorem w44 {a0 : Array Value} {Z : State} (hw : ∀ d ∈ tables_1, d.before a0 Z = true) : ((Jvm.Cond.declares ({ cls := "com/example/attestry/attestry/bundle/MessageType", name := "isEmpty", desc := "()Z" } : Jvm.MethodName))).before a0 Z = true := hw _ (List.mem_of_getElem? (i := 44) rfl)
set_option maxRecDepth 65536 in
set_option maxHeartbeats 40000000 in
theorem rm_law (l : Launch) (Z : State) (a0 : Array Value) (hw : ∀ d ∈ tables_1, d.before a0 Z = true) (ws : List Jvm.Cond) (y0 y1 y2 y3 y4 y5 zc : Int32) (h0 : Heap) (n0 : Nat) (Z0 : n0 ≤ h0.size) (O0 : Old Z n0 h0) (CS : Sta Z Z.heap "java/lang/String" "COMPACT_STRINGS" "Z" (.int zc)) (hz : ¬ zc = 0) :
    ConS l Z EL0 x code maxLocals ret ws room_1 #[(.int y0), (.int y1), (.int y2), (.int y3), (.int y4), (.int y5)] h0 [] (fun v h L => v = some (.int 1) ∧ Fr n0 L) := by
  refine ConS.enter (plainFor_of_name pn11) ?_
  intro p e s m below meth c s₁ X0 hx hZ hby hml hret hlk hown hnm e0 hS hA hsf
  have N0 := Fr.nil n0
  have hEL := hEL0 hw
  have hSt := hSt0 hw
  refine Go.cast (g' := (mkF m 0 #[.val (.int y0), .val (.int y1), .val (.int y2), .val (.int y3), .val (.int y4), .val (.int y5), .unset, .unset, .unset, .unset, .unset, .unset] [])) (by first | rfl | (simp [entryFrame, mkF, argsToLocals, Value.category, maxLocals]; done)) ?_
  refine Go.st (T' := s₁) (g' := (mkF m 1 #[.val (.int y0), .val (.int y1), .val (.int y2), .val (.int y3), .val (.int y4), .val (.int y5), .unset, .unset, .unset, .unset, .unset, .unset] [(.int y0)])) (fun _ zk => XS.iloadN X0.here hx rfl (hb hby at_0) rfl zk) ?_
  refine Go.st (T' := s₁) (g' := (mkF m 3 #[.val (.int y0), .val (.int y1), .val (.int y2), .val (.int y3), .val (.int y4), .val (.int y5), .unset, .unset, .unset, .unset, .unset, .unset] [(.int (2147483647 : Int32)), (.int y0)])) (fun _ zk => X0.ldcI hx hown (mvT hZ (w0 hw)) rfl (hb hby at_1) zk) ?_
  refine Go.st (T' := s₁) (g' := (mkF m 4 #[.val (.int y0), .val (.int y1), .val (.int y2), .val (.int y3), .val (.int y4), .val (.int y5), .unset, .unset, .unset, .unset, .unset, .unset] [(.int (y0 &&& (2147483647 : Int32)))])) (fun _ zk => XS.iand X0.here hx rfl (hb hby at_3) rfl zk) ?_
  refine Go.st (T' := s₁) (g' := (mkF m 5 #[.val (.int y0), .val (.int y1), .val (.int y2), .val (.int y3), .val (.int y4), .val (.int y5), .unset, .unset, .unset, .unset, .unset, .unset] [(.int (3 : Int32)), (.int (y0 &&& (2147483647 : Int32)))])) (fun _ zk => XS.iconst X0.here hx rfl (hb hby at_4) zk) ?_
  refine Go.st (T' := s₁) (g' := (mkF m 6 #[.val (.int y0), .val (.int y1), .val (.int y2), .val (.int y3), .val (.int y4), .val (.int y5), .unset, .unset, .unset, .unset, .unset, .unset] [(.int ((y0 &&& (2147483647 : Int32)) % (3 : Int32)))])) (fun _ zk => iremM X0 hx rfl (hb hby at_5) rfl (by decide) zk) ?_
  obtain ⟨ka, hka⟩ : ∃ k, k = ((y0 &&& (2147483647 : Int32)) % (3 : Int32)) := ⟨_, rfl⟩
  rw [← hka]
  have qka := own_mod3 y0
  rw [← hka] at qka
  rcases qka with rfl | rfl | rfl
  · refine Go.st (T' := s₁) (g' := (mkF m 8 #[.val (.int y0), .val (.int y1), .val (.int y2), .val (.int y3), .val (.int y4), .val (.int y5), .val (.int (0 : Int32)), .unset, .unset, .unset, .unset, .unset] [])) (fun _ zk => XS.istore X0.here hx rfl (hb hby at_6) rfl (l' := #[.val (.int y0), .val (.int y1), .val (.int y2), .val (.int y3), .val (.int y4), .val (.int y5), .val (.int (0 : Int32)), .unset, .unset, .unset, .unset, .unset]) rfl zk) ?_
    refine Go.st (T' := s₁) (g' := (mkF m 9 #[.val (.int y0), .val (.int y1), .val (.int y2), .val (.int y3), .val (.int y4), .val (.int y5), .val (.int (0 : Int32)), .unset, .unset, .unset, .unset, .unset] [(.int y1)])) (fun _ zk => XS.iloadN X0.here hx rfl (hb hby at_8) rfl zk) ?_
    refine Go.st (T' := s₁) (g' := (mkF m 11 #[.val (.int y0), .val (.int y1), .val (.int y2), .val (.int y3), .val (.int y4), .val (.int y5), .val (.int (0 : Int32)), .unset, .unset, .unset, .unset, .unset] [(.int (2147483647 : Int32)), (.int y1)])) (fun _ zk => X0.ldcI hx hown (mvT hZ (w0 hw)) rfl (hb hby at_9) zk) ?_
    refine Go.st (T' := s₁) (g' := (mkF m 12 #[.val (.int y0), .val (.int y1), .val (.int y2), .val (.int y3), .val (.int y4), .val (.int y5), .val (.int (0 : Int32)), .unset, .unset, .unset, .unset, .unset] [(.int (y1 &&& (2147483647 : Int32)))])) (fun _ zk => XS.iand X0.here hx rfl (hb hby at_11) rfl zk) ?_
    refine Go.st (T' := s₁) (g' := (mkF m 13 #[.val (.int y0), .val (.int y1), .val (.int y2), .val (.int y3), .val (.int y4), .val (.int y5), .val (.int (0 : Int32)), .unset, .unset, .unset, .unset, .unset] [(.int (3 : Int32)), (.int (y1 &&& (2147483647 : Int32)))])) (fun _ zk => XS.iconst X0.here hx rfl (hb hby at_12) zk) ?_
    refine Go.st (T' := s₁) (g' := (mkF m 14 #[.val (.int y0), .val (.int y1), .val (.int y2), .val (.int y3), .val (.int y4), .val (.int y5), .val (.int (0 : Int32)), .unset, .unset, .unset, .unset, .unset] [(.int ((y1 &&& (2147483647 : Int32)) % (3 : Int32)))])) (fun _ zk => iremM X0 hx rfl (hb hby at_13) rfl (by decide) zk) ?_
    obtain ⟨kb, hkb⟩ : ∃ k, k = ((y1 &&& (2147483647 : Int32)) % (3 : Int32)) := ⟨_, rfl⟩
    rw [← hkb]
    have qkb := own_mod3 y1
    rw [← hkb] at qkb
    rcases qkb with rfl | rfl | rfl
    · refine Go.st (T' := s₁) (g' := (mkF m 16 #[.val (.int y0), .val (.int y1), .val (.int y2), .val (.int y3), .val (.int y4), .val (.int y5), .val (.int (0 : Int32)), .val (.int (0 : Int32)), .unset, .unset, .unset, .unset] [])) (fun _ zk => XS.istore X0.here hx rfl (hb hby at_14) rfl (l' := #[.val (.int y0), .val (.int y1), .val (.int y2), .val (.int y3), .val (.int y4), .val (.int y5), .val (.int (0 : Int32)), .val (.int (0 : Int32)), .unset, .unset, .unset, .unset]) rfl zk) ?_
      refine Go.st (T' := s₁) (g' := (mkF m 18 #[.val (.int y0), .val (.int y1), .val (.int y2), .val (.int y3), .val (.int y4), .val (.int y5), .val (.int (0 : Int32)), .val (.int (0 : Int32)), .unset, .unset, .unset, .unset] [(.int (0 : Int32))])) (fun _ zk => XS.iload X0.here hx rfl (hb hby at_16) rfl zk) ?_
      refine Go.st (T' := s₁) (g' := (mkF m 19 #[.val (.int y0), .val (.int y1), .val (.int y2), .val (.int y3), .val (.int y4), .val (.int y5), .val (.int (0 : Int32)), .val (.int (0 : Int32)), .unset, .unset, .unset, .unset] [(.int y2), (.int (0 : Int32))])) (fun _ zk => XS.iloadN X0.here hx rfl (hb hby at_18) rfl zk) ?_
      refine Go.st (T' := s₁) (g' := (mkF m 20 #[.val (.int y0), .val (.int y1), .val (.int y2), .val (.int y3), .val (.int y4), .val (.int y5), .val (.int (0 : Int32)), .val (.int (0 : Int32)), .unset, .unset, .unset, .unset] [(.int y3), (.int y2), (.int (0 : Int32))])) (fun _ zk => XS.iloadN X0.here hx rfl (hb hby at_19) rfl zk) ?_
      refine Go.callStS (y := (⟨"com/example/attestry/attestry/bundle/MessageTypeIsEmptyPinLaw", "draw", "(III)Ljava/lang/String;"⟩ : MethodName)) X0 hx hZ hown e0 hEL hA.1 hS (Nat.zero_le _) (w1 hw) (w2 hw) (w3 hw) (w4 hw) (by decide) (argsL := [(.int (0 : Int32)), (.int y2), (.int y3)]) (rest := []) (W := 0) (rm_draw_0 l Z a0 hw [] y2 y3 zc h0 n0 Z0 O0 CS hz) all0 rfl (lenOf pd12 rfl) rfl (by rw [hml]; rfl) rfl (by show 2 * 0 + _ ≤ _; exact Nat.le_of_eq rfl) (by decide) (by decide) (by decide) (by decide) (hb hby at_20) ?_
      intro v1 T1 h1 L1 X1 e1 q1 hS hZ hown cr1
      obtain ⟨a1, t1, k1, hv1, Nf1, E1, A1, F1, V1⟩ := q1
      subst hv1
      have N1 := Fr.app N0 Nf1
      have ca2 := hA.trans cr1
      show Go p.tables e below _ T1 (mkF m 23 #[.val (.int y0), .val (.int y1), .val (.int y2), .val (.int y3), .val (.int y4), .val (.int y5), .val (.int (0 : Int32)), .val (.int (0 : Int32)), .unset, .unset, .unset, .unset] [(.ref a1)])
      refine Go.st (T' := T1) (g' := (mkF m 25 #[.val (.int y0), .val (.int y1), .val (.int y2), .val (.int y3), .val (.int y4), .val (.int y5), .val (.int (0 : Int32)), .val (.int (0 : Int32)), .val (.ref a1), .unset, .unset, .unset] [])) (fun _ zk => XS.astore X1.here hx rfl (hb hby at_23) rfl rfl (l' := #[.val (.int y0), .val (.int y1), .val (.int y2), .val (.int y3), .val (.int y4), .val (.int y5), .val (.int (0 : Int32)), .val (.int (0 : Int32)), .val (.ref a1), .unset, .unset, .unset]) rfl zk) ?_
      refine Go.st (T' := T1) (g' := (mkF m 27 #[.val (.int y0), .val (.int y1), .val (.int y2), .val (.int y3), .val (.int y4), .val (.int y5), .val (.int (0 : Int32)), .val (.int (0 : Int32)), .val (.ref a1), .unset, .unset, .unset] [(.int (0 : Int32))])) (fun _ zk => XS.iload X1.here hx rfl (hb hby at_25) rfl zk) ?_
      refine Go.st (T' := T1) (g' := (mkF m 29 #[.val (.int y0), .val (.int y1), .val (.int y2), .val (.int y3), .val (.int y4), .val (.int y5), .val (.int (0 : Int32)), .val (.int (0 : Int32)), .val (.ref a1), .unset, .unset, .unset] [(.int y4), (.int (0 : Int32))])) (fun _ zk => XS.iload X1.here hx rfl (hb hby at_27) rfl zk) ?_
      refine Go.st (T' := T1) (g' := (mkF m 31 #[.val (.int y0), .val (.int y1), .val (.int y2), .val (.int y3), .val (.int y4), .val (.int y5), .val (.int (0 : Int32)), .val (.int (0 : Int32)), .val (.ref a1), .unset, .unset, .unset] [(.int y5), (.int y4), (.int (0 : Int32))])) (fun _ zk => XS.iload X1.here hx rfl (hb hby at_29) rfl zk) ?_
      have x4 : Ext h0 h1 := E1
      have f5 := O0.ext x4
      refine Go.callStS (y := (⟨"com/example/attestry/attestry/bundle/MessageTypeIsEmptyPinLaw", "draw", "(III)Ljava/lang/String;"⟩ : MethodName)) X1 hx hZ hown e1 hEL ca2.1 hS (Nat.le_refl _) (w1 hw) (w2 hw) (w3 hw) (w4 hw) (by decide) (argsL := [(.int (0 : Int32)), (.int y4), (.int y5)]) (rest := []) (W := 0) (rm_draw_0 l Z a0 hw [] y4 y5 zc h1 n0 (Nat.le_trans Z0 E1.1) f5 CS hz) all0 rfl (lenOf pd12 rfl) rfl (by rw [hml]; rfl) rfl (by show 2 * 0 + _ ≤ _; exact Nat.le_of_eq rfl) (by decide) (by decide) (by decide) (by decide) (hb hby at_31) ?_
      intro v3 T3 h3 L3 X3 e3 q3 hS hZ hown cr3
      obtain ⟨a3, t3, k3, hv3, Nf3, E3, A3, F3, V3⟩ := q3
      subst hv3
      have N3 := Fr.app N1 Nf3
      have ca6 := ca2.trans cr3
      show Go p.tables e below _ T3 (mkF m 34 #[.val (.int y0), .val (.int y1), .val (.int y2), .val (.int y3), .val (.int y4), .val (.int y5), .val (.int (0 : Int32)), .val (.int (0 : Int32)), .val (.ref a1), .unset, .unset, .unset] [(.ref a3)])
      refine Go.st (T' := T3) (g' := (mkF m 36 #[.val (.int y0), .val (.int y1), .val (.int y2), .val (.int y3), .val (.int y4), .val (.int y5), .val (.int (0 : Int32)), .val (.int (0 : Int32)), .val (.ref a1), .val (.ref a3), .unset, .unset] [])) (fun _ zk => XS.astore X3.here hx rfl (hb hby at_34) rfl rfl (l' := #[.val (.int y0), .val (.int y1), .val (.int y2), .val (.int y3), .val (.int y4), .val (.int y5), .val (.int (0 : Int32)), .val (.int (0 : Int32)), .val (.ref a1), .val (.ref a3), .unset, .unset]) rfl zk) ?_
      obtain ⟨T7, h7, X7, e7, E7, A7, D7, -, st7⟩ := newO X3 hx hZ hown (w27 hw) (w28 hw) (w29 hw) e3 (g := (mkF m 36 #[.val (.int y0), .val (.int y1), .val (.int y2), .val (.int y3), .val (.int y4), .val (.int y5), .val (.int (0 : Int32)), .val (.int (0 : Int32)), .val (.ref a1), .val (.ref a3), .unset, .unset] [])) rfl (hb hby at_36) (by decide) (by decide)
      obtain ⟨b7, g7⟩ : ∃ z, z = h3.size := ⟨_, rfl⟩
      rw [← g7] at A7 D7 st7
      have F7_code : Fld Z h7 b7 "com/example/attestry/attestry/bundle/MessageType" "code" "Ljava/lang/String;" .null := D7 (Or.inr (w40 hw)) (ty := (.object "java/lang/String")) (by decide)
      have F7_triggerEvent : Fld Z h7 b7 "com/example/attestry/attestry/bundle/MessageType" "triggerEvent" "Ljava/lang/String;" .null := D7 (Or.inr (w42 hw)) (ty := (.object "java/lang/String")) (by decide)
      refine Go.st (T' := T7) (g' := (mkF m 39 #[.val (.int y0), .val (.int y1), .val (.int y2), .val (.int y3), .val (.int y4), .val (.int y5), .val (.int (0 : Int32)), .val (.int (0 : Int32)), .val (.ref a1), .val (.ref a3), .unset, .unset] [(.ref b7)])) (fun _ zk => st7 _ zk) ?_
      refine Go.st (T' := T7) (g' := (mkF m 40 #[.val (.int y0), .val (.int y1), .val (.int y2), .val (.int y3), .val (.int y4), .val (.int y5), .val (.int (0 : Int32)), .val (.int (0 : Int32)), .val (.ref a1), .val (.ref a3), .unset, .unset] [(.ref b7), (.ref b7)])) (fun _ zk => XS.dup X7.here hx rfl (hb hby at_39) rfl rfl zk) ?_
      refine Go.st (T' := T7) (g' := (mkF m 42 #[.val (.int y0), .val (.int y1), .val (.int y2), .val (.int y3), .val (.int y4), .val (.int y5), .val (.int (0 : Int32)), .val (.int (0 : Int32)), .val (.ref a1), .val (.ref a3), .unset, .unset] [(.ref a1), (.ref b7), (.ref b7)])) (fun _ zk => XS.aload X7.here hx rfl (hb hby at_40) rfl rfl zk) ?_
      refine Go.st (T' := T7) (g' := (mkF m 44 #[.val (.int y0), .val (.int y1), .val (.int y2), .val (.int y3), .val (.int y4), .val (.int y5), .val (.int (0 : Int32)), .val (.int (0 : Int32)), .val (.ref a1), .val (.ref a3), .unset, .unset] [(.ref a3), (.ref a1), (.ref b7), (.ref b7)])) (fun _ zk => XS.aload X7.here hx rfl (hb hby at_42) rfl rfl zk) ?_
      refine Go.callSp (y := (⟨"com/example/attestry/attestry/bundle/MessageType", "<init>", "(Ljava/lang/String;Ljava/lang/String;)V"⟩ : MethodName)) (a := b7) X7 hx hZ hown e7 rfl (w30 hw) (w31 hw) (w29 hw) (w32 hw) (by decide) (argsL := [(.ref a1), (.ref a3)]) (rest := [(.ref b7)]) (W := 1) (rm_mtInit l Z a0 hw [] b7 a1 a3 h7 n0 (Nat.le_trans Z0 (Nat.le_trans (Nat.le_trans E1.1 E3.1) E7.1)) A7 (Nat.le_trans Z0 (Nat.le_trans (Nat.le_trans E1.1 E3.1) (Nat.le_of_eq g7.symm))) F7_code F7_triggerEvent) rfl (lenOf pd13 rfl) rfl (by rw [hml]; rfl) rfl (by show 2 * 0 + _ ≤ _; exact Nat.le_of_eq rfl) (by decide) (by decide) (by decide) (by decide) (hb hby at_44) ?_
      intro v8 T8 h8 L8 X8 e8 q8
      obtain ⟨hv8, Nf8, K8, G8_0, G8_1⟩ := q8
      subst hv8
      have N8 := Fr.app N3 Nf8
      show Go p.tables e below _ T8 (mkF m 47 #[.val (.int y0), .val (.int y1), .val (.int y2), .val (.int y3), .val (.int y4), .val (.int y5), .val (.int (0 : Int32)), .val (.int (0 : Int32)), .val (.ref a1), .val (.ref a3), .unset, .unset] [(.ref b7)])
      refine Go.st (T' := T8) (g' := (mkF m 49 #[.val (.int y0), .val (.int y1), .val (.int y2), .val (.int y3), .val (.int y4), .val (.int y5), .val (.int (0 : Int32)), .val (.int (0 : Int32)), .val (.ref a1), .val (.ref a3), .val (.ref b7), .unset] [])) (fun _ zk => XS.astore X8.here hx rfl (hb hby at_47) rfl rfl (l' := #[.val (.int y0), .val (.int y1), .val (.int y2), .val (.int y3), .val (.int y4), .val (.int y5), .val (.int (0 : Int32)), .val (.int (0 : Int32)), .val (.ref a1), .val (.ref a3), .val (.ref b7), .unset]) rfl zk) ?_
      refine Go.st (T' := T8) (g' := (mkF m 51 #[.val (.int y0), .val (.int y1), .val (.int y2), .val (.int y3), .val (.int y4), .val (.int y5), .val (.int (0 : Int32)), .val (.int (0 : Int32)), .val (.ref a1), .val (.ref a3), .val (.ref b7), .unset] [(.int (0 : Int32))])) (fun _ zk => XS.iload X8.here hx rfl (hb hby at_49) rfl zk) ?_
      refine Go.st (T' := T8) (g' := (mkF m 54 #[.val (.int y0), .val (.int y1), .val (.int y2), .val (.int y3), .val (.int y4), .val (.int y5), .val (.int (0 : Int32)), .val (.int (0 : Int32)), .val (.ref a1), .val (.ref a3), .val (.ref b7), .unset] [])) (fun _ zk => XS.ifNo X8.here hx rfl (hb hby at_51) rfl ((if0 _ _).trans (teq (rfl : (0 : Int32) = (0 : Int32))).2) zk) ?_
      refine Go.st (T' := T8) (g' := (mkF m 56 #[.val (.int y0), .val (.int y1), .val (.int y2), .val (.int y3), .val (.int y4), .val (.int y5), .val (.int (0 : Int32)), .val (.int (0 : Int32)), .val (.ref a1), .val (.ref a3), .val (.ref b7), .unset] [(.int (0 : Int32))])) (fun _ zk => XS.iload X8.here hx rfl (hb hby at_54) rfl zk) ?_
      refine Go.st (T' := T8) (g' := (mkF m 59 #[.val (.int y0), .val (.int y1), .val (.int y2), .val (.int y3), .val (.int y4), .val (.int y5), .val (.int (0 : Int32)), .val (.int (0 : Int32)), .val (.ref a1), .val (.ref a3), .val (.ref b7), .unset] [])) (fun _ zk => XS.ifNo X8.here hx rfl (hb hby at_56) rfl ((if0 _ _).trans (teq (rfl : (0 : Int32) = (0 : Int32))).2) zk) ?_
      refine Go.st (T' := T8) (g' := (mkF m 60 #[.val (.int y0), .val (.int y1), .val (.int y2), .val (.int y3), .val (.int y4), .val (.int y5), .val (.int (0 : Int32)), .val (.int (0 : Int32)), .val (.ref a1), .val (.ref a3), .val (.ref b7), .unset] [(.int (1 : Int32))])) (fun _ zk => XS.iconst X8.here hx rfl (hb hby at_59) zk) ?_
      refine Go.st (T' := T8) (g' := (mkF m 64 #[.val (.int y0), .val (.int y1), .val (.int y2), .val (.int y3), .val (.int y4), .val (.int y5), .val (.int (0 : Int32)), .val (.int (0 : Int32)), .val (.ref a1), .val (.ref a3), .val (.ref b7), .unset] [(.int (1 : Int32))])) (fun _ zk => XS.goto X8.here hx rfl (pc0 := 60) (pc' := 64) rfl (hb hby at_60) (by decide) (by decide) zk) ?_
      refine Go.st (T' := T8) (g' := (mkF m 66 #[.val (.int y0), .val (.int y1), .val (.int y2), .val (.int y3), .val (.int y4), .val (.int y5), .val (.int (0 : Int32)), .val (.int (0 : Int32)), .val (.ref a1), .val (.ref a3), .val (.ref b7), .val (.int (1 : Int32))] [])) (fun _ zk => XS.istore X8.here hx rfl (hb hby at_64) rfl (l' := #[.val (.int y0), .val (.int y1), .val (.int y2), .val (.int y3), .val (.int y4), .val (.int y5), .val (.int (0 : Int32)), .val (.int (0 : Int32)), .val (.ref a1), .val (.ref a3), .val (.ref b7), .val (.int (1 : Int32))]) rfl zk) ?_
      refine Go.st (T' := T8) (g' := (mkF m 68 #[.val (.int y0), .val (.int y1), .val (.int y2), .val (.int y3), .val (.int y4), .val (.int y5), .val (.int (0 : Int32)), .val (.int (0 : Int32)), .val (.ref a1), .val (.ref a3), .val (.ref b7), .val (.int (1 : Int32))] [(.ref b7)])) (fun _ zk => XS.aload X8.here hx rfl (hb hby at_66) rfl rfl zk) ?_
      have x9 : Ext h1 h8 := ((E3.tr E7).thenK K8 (allS (P := fun x => h1.size ≤ x) (Nat.le_trans E3.1 (Nat.le_of_eq g7.symm)) all0))
      have f10 := A1.ext x9
      have f11 := F1.ext x9
      have f12 := V1.ext x9
      have x13 : Ext h3 h8 := (E7.thenK K8 (allS (P := fun x => h3.size ≤ x) (Nat.le_of_eq g7.symm) all0))
      have f14 := A3.ext x13
      have f15 := F3.ext x13
      have f16 := V3.ext x13
      have f18 := (A7.keep K8)
      refine Go.callV (y := (⟨"com/example/attestry/attestry/bundle/MessageType", "isEmpty", "()Z"⟩ : MethodName)) (z := (⟨"com/example/attestry/attestry/bundle/MessageType", "isEmpty", "()Z"⟩ : MethodName)) (C := "com/example/attestry/attestry/bundle/MessageType") (a := b7) X8 hx hZ hown e8 (w43 hw) (w44 hw) (w46 hw) (w45 hw) (w29 hw) (w47 hw) (notFace_of_selects (args := #[]) (mvT hZ (w46 hw))) (by decide) f18 (argsL := []) (rest := []) (W := 0) (rm_isEmpty_00 l Z a0 hw [] b7 a1 t1 k1  a3 t3 k3  h8 n0 (Nat.le_trans Z0 (Nat.le_trans (Nat.le_trans (Nat.le_trans E1.1 E3.1) E7.1) K8.1)) f10 f11 f12 f14 f15 f16 G8_0 G8_1) rfl (lenOf pd4 rfl) rfl (by rw [hml]; rfl) rfl (by show 2 * 0 + _ ≤ _; exact Nat.le_of_eq rfl) (by decide) (by decide) (by decide) (by decide) (hb hby at_68) ?_
      intro v17 T17 h17 L17 X17 e17 q17
      obtain ⟨hv17, Nf17, hh17⟩ := q17
      subst hv17
      have E17 : T17.heap = h8 := e17.trans hh17
      have N17 := Fr.app N8 Nf17
      show Go p.tables e below _ T17 (mkF m 71 #[.val (.int y0), .val (.int y1), .val (.int y2), .val (.int y3), .val (.int y4), .val (.int y5), .val (.int (0 : Int32)), .val (.int (0 : Int32)), .val (.ref a1), .val (.ref a3), .val (.ref b7), .val (.int (1 : Int32))] [(.int (1 : Int32))])
      refine Go.st (T' := T17) (g' := (mkF m 73 #[.val (.int y0), .val (.int y1), .val (.int y2), .val (.int y3), .val (.int y4), .val (.int y5), .val (.int (0 : Int32)), .val (.int (0 : Int32)), .val (.ref a1), .val (.ref a3), .val (.ref b7), .val (.int (1 : Int32))] [(.int (1 : Int32)), (.int (1 : Int32))])) (fun _ zk => XS.iload X17.here hx rfl (hb hby at_71) rfl zk) ?_
      refine Go.st (T' := T17) (g' := (mkF m 76 #[.val (.int y0), .val (.int y1), .val (.int y2), .val (.int y3), .val (.int y4), .val (.int y5), .val (.int (0 : Int32)), .val (.int (0 : Int32)), .val (.ref a1), .val (.ref a3), .val (.ref b7), .val (.int (1 : Int32))] [])) (fun _ zk => XS.icmpNo X17.here hx rfl (hb hby at_73) rfl (teq (rfl : (1 : Int32) = (1 : Int32))).2 zk) ?_
      refine Go.st (T' := T17) (g' := (mkF m 77 #[.val (.int y0), .val (.int y1), .val (.int y2), .val (.int y3), .val (.int y4), .val (.int y5), .val (.int (0 : Int32)), .val (.int (0 : Int32)), .val (.ref a1), .val (.ref a3), .val (.ref b7), .val (.int (1 : Int32))] [(.int (1 : Int32))])) (fun _ zk => XS.iconst X17.here hx rfl (hb hby at_76) zk) ?_
      refine Go.st (T' := T17) (g' := (mkF m 81 #[.val (.int y0), .val (.int y1), .val (.int y2), .val (.int y3), .val (.int y4), .val (.int y5), .val (.int (0 : Int32)), .val (.int (0 : Int32)), .val (.ref a1), .val (.ref a3), .val (.ref b7), .val (.int (1 : Int32))] [(.int (1 : Int32))])) (fun _ zk => XS.goto X17.here hx rfl (pc0 := 77) (pc' := 81) rfl (hb hby at_77) (by decide) (by decide) zk) ?_
      have cr19 := (chrK (chrE ca6 E7) K8 (sfS (Safe.exa hZ.alike A7 (by decide) (by decide)) sf0))
      refine Go.retNS X17 hx hlk hS (Nat.le_trans (Nat.le_refl _) (Nat.le_trans E7.1 K8.1)) cr19 hZ hEL hret rfl (by simp) (hb hby at_81) (by decide) (by decide) E17 ?_
      exact ⟨rfl, N17⟩
    · refine Go.st (T' := s₁) (g' := (mkF m 16 #[.val (.int y0), .val (.int y1), .val (.int y2), .val (.int y3), .val (.int y4), .val (.int y5), .val (.int (0 : Int32)), .val (.int (1 : Int32)), .unset, .unset, .unset, .unset] [])) (fun _ zk => XS.istore X0.here hx rfl (hb hby at_14) rfl (l' := #[.val (.int y0), .val (.int y1), .val (.int y2), .val (.int y3), .val (.int y4), .val (.int y5), .val (.int (0 : Int32)), .val (.int (1 : Int32)), .unset, .unset, .unset, .unset]) rfl zk) ?_
      refine Go.st (T' := s₁) (g' := (mkF m 18 #[.val (.int y0), .val (.int y1), .val (.int y2), .val (.int y3), .val (.int y4), .val (.int y5), .val (.int (0 : Int32)), .val (.int (1 : Int32)), .unset, .unset, .unset, .unset] [(.int (0 : Int32))])) (fun _ zk => XS.iload X0.here hx rfl (hb hby at_16) rfl zk) ?_
      refine Go.st (T' := s₁) (g' := (mkF m 19 #[.val (.int y0), .val (.int y1), .val (.int y2), .val (.int y3), .val (.int y4), .val (.int y5), .val (.int (0 : Int32)), .val (.int (1 : Int32)), .unset, .unset, .unset, .unset] [(.int y2), (.int (0 : Int32))])) (fun _ zk => XS.iloadN X0.here hx rfl (hb hby at_18) rfl zk) ?_
      refine Go.st (T' := s₁) (g' := (mkF m 20 #[.val (.int y0), .val (.int y1), .val (.int y2), .val (.int y3), .val (.int y4), .val (.int y5), .val (.int (0 : Int32)), .val (.int (1 : Int32)), .unset, .unset, .unset, .unset] [(.int y3), (.int y2), (.int (0 : Int32))])) (fun _ zk => XS.iloadN X0.here hx rfl (hb hby at_19) rfl zk) ?_
      refine Go.callStS (y := (⟨"com/example/attestry/attestry/bundle/MessageTypeIsEmptyPinLaw", "draw", "(III)Ljava/lang/String;"⟩ : MethodName)) X0 hx hZ hown e0 hEL hA.1 hS (Nat.zero_le _) (w1 hw) (w2 hw) (w3 hw) (w4 hw) (by decide) (argsL := [(.int (0 : Int32)), (.int y2), (.int y3)]) (rest := []) (W := 0) (rm_draw_0 l Z a0 hw [] y2 y3 zc h0 n0 Z0 O0 CS hz) all0 rfl (lenOf pd12 rfl) rfl (by rw [hml]; rfl) rfl (by show 2 * 0 + _ ≤ _; exact Nat.le_of_eq rfl) (by decide) (by decide) (by decide) (by decide) (hb hby at_20) ?_
      intro v20 T20 h20 L20 X20 e20 q20 hS hZ hown cr20
      obtain ⟨a20, t20, k20, hv20, Nf20, E20, A20, F20, V20⟩ := q20
      subst hv20
      have N20 := Fr.app N0 Nf20
      have ca21 := hA.trans cr20
      show Go p.tables e below _ T20 (mkF m 23 #[.val (.int y0), .val (.int y1), .val (.int y2), .val (.int y3), .val (.int y4), .val (.int y5), .val (.int (0 : Int32)), .val (.int (1 : Int32)), .unset, .unset, .unset, .unset] [(.ref a20)])
      refine Go.st (T' := T20) (g' := (mkF m 25 #[.val (.int y0), .val (.int y1), .val (.int y2), .val (.int y3), .val (.int y4), .val (.int y5), .val (.int (0 : Int32)), .val (.int (1 : Int32)), .val (.ref a20), .unset, .unset, .unset] [])) (fun _ zk => XS.astore X20.here hx rfl (hb hby at_23) rfl rfl (l' := #[.val (.int y0), .val (.int y1), .val (.int y2), .val (.int y3), .val (.int y4), .val (.int y5), .val (.int (0 : Int32)), .val (.int (1 : Int32)), .val (.ref a20), .unset, .unset, .unset]) rfl zk) ?_
      refine Go.st (T' := T20) (g' := (mkF m 27 #[.val (.int y0), .val (.int y1), .val (.int y2), .val (.int y3), .val (.int y4), .val (.int y5), .val (.int (0 : Int32)), .val (.int (1 : Int32)), .val (.ref a20), .unset, .unset, .unset] [(.int (1 : Int32))])) (fun _ zk => XS.iload X20.here hx rfl (hb hby at_25) rfl zk) ?_
      refine Go.st (T' := T20) (g' := (mkF m 29 #[.val (.int y0), .val (.int y1), .val (.int y2), .val (.int y3), .val (.int y4), .val (.int y5), .val (.int (0 : Int32)), .val (.int (1 : Int32)), .val (.ref a20), .unset, .unset, .unset] [(.int y4), (.int (1 : Int32))])) (fun _ zk => XS.iload X20.here hx rfl (hb hby at_27) rfl zk) ?_
      refine Go.st (T' := T20) (g' := (mkF m 31 #[.val (.int y0), .val (.int y1), .val (.int y2), .val (.int y3), .val (.int y4), .val (.int y5), .val (.int (0 : Int32)), .val (.int (1 : Int32)), .val (.ref a20), .unset, .unset, .unset] [(.int y5), (.int y4), (.int (1 : Int32))])) (fun _ zk => XS.iload X20.here hx rfl (hb hby at_29) rfl zk) ?_
      have x23 : Ext h0 h20 := E20
      have f24 := O0.ext x23
      refine Go.callSt (y := (⟨"com/example/attestry/attestry/bundle/MessageTypeIsEmptyPinLaw", "draw", "(III)Ljava/lang/String;"⟩ : MethodName)) X20 hx hZ hown e20 (w1 hw) (w2 hw) (w3 hw) (w4 hw) (by decide) (argsL := [(.int (1 : Int32)), (.int y4), (.int y5)]) (rest := []) (W := 0) (rm_draw_1 l Z a0 hw [] y4 y5 zc h20 n0 (Nat.le_trans Z0 E20.1) f24 CS hz) rfl (lenOf pd12 rfl) rfl (by rw [hml]; rfl) rfl (by show 2 * 0 + _ ≤ _; exact Nat.le_of_eq rfl) (by decide) (by decide) (by decide) (by decide) (hb hby at_31) ?_
      intro v22 T22 h22 L22 X22 e22 q22
      obtain ⟨a22, t22, k22, b22_0, hv22, Nf22, E22, A22, F22, V22⟩ := q22
      subst hv22
      have N22 := Fr.app N20 Nf22
      show Go p.tables e below _ T22 (mkF m 34 #[.val (.int y0), .val (.int y1), .val (.int y2), .val (.int y3), .val (.int y4), .val (.int y5), .val (.int (0 : Int32)), .val (.int (1 : Int32)), .val (.ref a20), .unset, .unset, .unset] [(.ref a22)])
      refine Go.st (T' := T22) (g' := (mkF m 36 #[.val (.int y0), .val (.int y1), .val (.int y2), .val (.int y3), .val (.int y4), .val (.int y5), .val (.int (0 : Int32)), .val (.int (1 : Int32)), .val (.ref a20), .val (.ref a22), .unset, .unset] [])) (fun _ zk => XS.astore X22.here hx rfl (hb hby at_34) rfl rfl (l' := #[.val (.int y0), .val (.int y1), .val (.int y2), .val (.int y3), .val (.int y4), .val (.int y5), .val (.int (0 : Int32)), .val (.int (1 : Int32)), .val (.ref a20), .val (.ref a22), .unset, .unset]) rfl zk) ?_
      obtain ⟨T25, h25, X25, e25, E25, A25, D25, -, st25⟩ := newO X22 hx hZ hown (w27 hw) (w28 hw) (w29 hw) e22 (g := (mkF m 36 #[.val (.int y0), .val (.int y1), .val (.int y2), .val (.int y3), .val (.int y4), .val (.int y5), .val (.int (0 : Int32)), .val (.int (1 : Int32)), .val (.ref a20), .val (.ref a22), .unset, .unset] [])) rfl (hb hby at_36) (by decide) (by decide)
      obtain ⟨b25, g25⟩ : ∃ z, z = h22.size := ⟨_, rfl⟩
      rw [← g25] at A25 D25 st25
      have F25_code : Fld Z h25 b25 "com/example/attestry/attestry/bundle/MessageType" "code" "Ljava/lang/String;" .null := D25 (Or.inr (w40 hw)) (ty := (.object "java/lang/String")) (by decide)
      have F25_triggerEvent : Fld Z h25 b25 "com/example/attestry/attestry/bundle/MessageType" "triggerEvent" "Ljava/lang/String;" .null := D25 (Or.inr (w42 hw)) (ty := (.object "java/lang/String")) (by decide)
      refine Go.st (T' := T25) (g' := (mkF m 39 #[.val (.int y0), .val (.int y1), .val (.int y2), .val (.int y3), .val (.int y4), .val (.int y5), .val (.int (0 : Int32)), .val (.int (1 : Int32)), .val (.ref a20), .val (.ref a22), .unset, .unset] [(.ref b25)])) (fun _ zk => st25 _ zk) ?_
      refine Go.st (T' := T25) (g' := (mkF m 40 #[.val (.int y0), .val (.int y1), .val (.int y2), .val (.int y3), .val (.int y4), .val (.int y5), .val (.int (0 : Int32)), .val (.int (1 : Int32)), .val (.ref a20), .val (.ref a22), .unset, .unset] [(.ref b25), (.ref b25)])) (fun _ zk => XS.dup X25.here hx rfl (hb hby at_39) rfl rfl zk) ?_
      refine Go.st (T' := T25) (g' := (mkF m 42 #[.val (.int y0), .val (.int y1), .val (.int y2), .val (.int y3), .val (.int y4), .val (.int y5), .val (.int (0 : Int32)), .val (.int (1 : Int32)), .val (.ref a20), .val (.ref a22), .unset, .unset] [(.ref a20), (.ref b25), (.ref b25)])) (fun _ zk => XS.aload X25.here hx rfl (hb hby at_40) rfl rfl zk) ?_
      refine Go.st (T' := T25) (g' := (mkF m 44 #[.val (.int y0), .val (.int y1), .val (.int y2), .val (.int y3), .val (.int y4), .val (.int y5), .val (.int (0 : Int32)), .val (.int (1 : Int32)), .val (.ref a20), .val (.ref a22), .unset, .unset] [(.ref a22), (.ref a20), (.ref b25), (.ref b25)])) (fun _ zk => XS.aload X25.here hx rfl (hb hby at_42) rfl rfl zk) ?_
      refine Go.callSp (y := (⟨"com/example/attestry/attestry/bundle/MessageType", "<init>", "(Ljava/lang/String;Ljava/lang/String;)V"⟩ : MethodName)) (a := b25) X25 hx hZ hown e25 rfl (w30 hw) (w31 hw) (w29 hw) (w32 hw) (by decide) (argsL := [(.ref a20), (.ref a22)]) (rest := [(.ref b25)]) (W := 1) (rm_mtInit l Z a0 hw [] b25 a20 a22 h25 n0 (Nat.le_trans Z0 (Nat.le_trans (Nat.le_trans E20.1 E22.1) E25.1)) A25 (Nat.le_trans Z0 (Nat.le_trans (Nat.le_trans E20.1 E22.1) (Nat.le_of_eq g25.symm))) F25_code F25_triggerEvent) rfl (lenOf pd13 rfl) rfl (by rw [hml]; rfl) rfl (by show 2 * 0 + _ ≤ _; exact Nat.le_of_eq rfl) (by decide) (by decide) (by decide) (by decide) (hb hby at_44) ?_
      intro v26 T26 h26 L26 X26 e26 q26
      obtain ⟨hv26, Nf26, K26, G26_0, G26_1⟩ := q26
      subst hv26
      have N26 := Fr.app N22 Nf26
      show Go p.tables e below _ T26 (mkF m 47 #[.val (.int y0), .val (.int y1), .val (.int y2), .val (.int y3), .val (.int y4), .val (.int y5), .val (.int (0 : Int32)), .val (.int (1 : Int32)), .val (.ref a20), .val (.ref a22), .unset, .unset] [(.ref b25)])
      refine Go.st (T' := T26) (g' := (mkF m 49 #[.val (.int y0), .val (.int y1), .val (.int y2), .val (.int y3), .val (.int y4), .val (.int y5), .val (.int (0 : Int32)), .val (.int (1 : Int32)), .val (.ref a20), .val (.ref a22), .val (.ref b25), .unset] [])) (fun _ zk => XS.astore X26.here hx rfl (hb hby at_47) rfl rfl (l' := #[.val (.int y0), .val (.int y1), .val (.int y2), .val (.int y3), .val (.int y4), .val (.int y5), .val (.int (0 : Int32)), .val (.int (1 : Int32)), .val (.ref a20), .val (.ref a22), .val (.ref b25), .unset]) rfl zk) ?_
      refine Go.st (T' := T26) (g' := (mkF m 51 #[.val (.int y0), .val (.int y1), .val (.int y2), .val (.int y3), .val (.int y4), .val (.int y5), .val (.int (0 : Int32)), .val (.int (1 : Int32)), .val (.ref a20), .val (.ref a22), .val (.ref b25), .unset] [(.int (0 : Int32))])) (fun _ zk => XS.iload X26.here hx rfl (hb hby at_49) rfl zk) ?_
      refine Go.st (T' := T26) (g' := (mkF m 54 #[.val (.int y0), .val (.int y1), .val (.int y2), .val (.int y3), .val (.int y4), .val (.int y5), .val (.int (0 : Int32)), .val (.int (1 : Int32)), .val (.ref a20), .val (.ref a22), .val (.ref b25), .unset] [])) (fun _ zk => XS.ifNo X26.here hx rfl (hb hby at_51) rfl ((if0 _ _).trans (teq (rfl : (0 : Int32) = (0 : Int32))).2) zk) ?_
      refine Go.st (T' := T26) (g' := (mkF m 56 #[.val (.int y0), .val (.int y1), .val (.int y2), .val (.int y3), .val (.int y4), .val (.int y5), .val (.int (0 : Int32)), .val (.int (1 : Int32)), .val (.ref a20), .val (.ref a22), .val (.ref b25), .unset] [(.int (1 : Int32))])) (fun _ zk => XS.iload X26.here hx rfl (hb hby at_54) rfl zk) ?_
      refine Go.st (T' := T26) (g' := (mkF m 63 #[.val (.int y0), .val (.int y1), .val (.int y2), .val (.int y3), .val (.int y4), .val (.int y5), .val (.int (0 : Int32)), .val (.int (1 : Int32)), .val (.ref a20), .val (.ref a22), .val (.ref b25), .unset] [])) (fun _ zk => XS.ifYes X26.here hx rfl (pc0 := 56) (pc' := 63) rfl (hb hby at_56) rfl ((if0 _ _).trans (feq ((by decide) : ¬ ((1 : Int32) = (0 : Int32)))).2) (by decide) (by decide) zk) ?_
      refine Go.st (T' := T26) (g' := (mkF m 64 #[.val (.int y0), .val (.int y1), .val (.int y2), .val (.int y3), .val (.int y4), .val (.int y5), .val (.int (0 : Int32)), .val (.int (1 : Int32)), .val (.ref a20), .val (.ref a22), .val (.ref b25), .unset] [(.int (0 : Int32))])) (fun _ zk => XS.iconst X26.here hx rfl (hb hby at_63) zk) ?_
      refine Go.st (T' := T26) (g' := (mkF m 66 #[.val (.int y0), .val (.int y1), .val (.int y2), .val (.int y3), .val (.int y4), .val (.int y5), .val (.int (0 : Int32)), .val (.int (1 : Int32)), .val (.ref a20), .val (.ref a22), .val (.ref b25), .val (.int (0 : Int32))] [])) (fun _ zk => XS.istore X26.here hx rfl (hb hby at_64) rfl (l' := #[.val (.int y0), .val (.int y1), .val (.int y2), .val (.int y3), .val (.int y4), .val (.int y5), .val (.int (0 : Int32)), .val (.int (1 : Int32)), .val (.ref a20), .val (.ref a22), .val (.ref b25), .val (.int (0 : Int32))]) rfl zk) ?_
      refine Go.st (T' := T26) (g' := (mkF m 68 #[.val (.int y0), .val (.int y1), .val (.int y2), .val (.int y3), .val (.int y4), .val (.int y5), .val (.int (0 : Int32)), .val (.int (1 : Int32)), .val (.ref a20), .val (.ref a22), .val (.ref b25), .val (.int (0 : Int32))] [(.ref b25)])) (fun _ zk => XS.aload X26.here hx rfl (hb hby at_66) rfl rfl zk) ?_
      have x27 : Ext h20 h26 := ((E22.tr E25).thenK K26 (allS (P := fun x => h20.size ≤ x) (Nat.le_trans E22.1 (Nat.le_of_eq g25.symm)) all0))
      have f28 := A20.ext x27
      have f29 := F20.ext x27
      have f30 := V20.ext x27
      have x31 : Ext h22 h26 := (E25.thenK K26 (allS (P := fun x => h22.size ≤ x) (Nat.le_of_eq g25.symm) all0))
      have f32 := A22.ext x31
      have f33 := F22.ext x31
      have f34 := V22.ext x31
      have f36 := (A25.keep K26)
      refine Go.callV (y := (⟨"com/example/attestry/attestry/bundle/MessageType", "isEmpty", "()Z"⟩ : MethodName)) (z := (⟨"com/example/attestry/attestry/bundle/MessageType", "isEmpty", "()Z"⟩ : MethodName)) (C := "com/example/attestry/attestry/bundle/MessageType") (a := b25) X26 hx hZ hown e26 (w43 hw) (w44 hw) (w46 hw) (w45 hw) (w29 hw) (w47 hw) (notFace_of_selects (args := #[]) (mvT hZ (w46 hw))) (by decide) f36 (argsL := []) (rest := []) (W := 0) (rm_isEmpty_01 l Z a0 hw [] b25 a20 t20 k20  a22 t22 k22 b22_0 h26 n0 (Nat.le_trans Z0 (Nat.le_trans (Nat.le_trans (Nat.le_trans E20.1 E22.1) E25.1) K26.1)) f28 f29 f30 f32 f33 f34 G26_0 G26_1) rfl (lenOf pd4 rfl) rfl (by rw [hml]; rfl) rfl (by show 2 * 0 + _ ≤ _; exact Nat.le_of_eq rfl) (by decide) (by decide) (by decide) (by decide) (hb hby at_68) ?_
      intro v35 T35 h35 L35 X35 e35 q35
      obtain ⟨hv35, Nf35, hh35⟩ := q35
      subst hv35
      have E35 : T35.heap = h26 := e35.trans hh35
      have N35 := Fr.app N26 Nf35
      show Go p.tables e below _ T35 (mkF m 71 #[.val (.int y0), .val (.int y1), .val (.int y2), .val (.int y3), .val (.int y4), .val (.int y5), .val (.int (0 : Int32)), .val (.int (1 : Int32)), .val (.ref a20), .val (.ref a22), .val (.ref b25), .val (.int (0 : Int32))] [(.int (0 : Int32))])
      refine Go.st (T' := T35) (g' := (mkF m 73 #[.val (.int y0), .val (.int y1), .val (.int y2), .val (.int y3), .val (.int y4), .val (.int y5), .val (.int (0 : Int32)), .val (.int (1 : Int32)), .val (.ref a20), .val (.ref a22), .val (.ref b25), .val (.int (0 : Int32))] [(.int (0 : Int32)), (.int (0 : Int32))])) (fun _ zk => XS.iload X35.here hx rfl (hb hby at_71) rfl zk) ?_
      refine Go.st (T' := T35) (g' := (mkF m 76 #[.val (.int y0), .val (.int y1), .val (.int y2), .val (.int y3), .val (.int y4), .val (.int y5), .val (.int (0 : Int32)), .val (.int (1 : Int32)), .val (.ref a20), .val (.ref a22), .val (.ref b25), .val (.int (0 : Int32))] [])) (fun _ zk => XS.icmpNo X35.here hx rfl (hb hby at_73) rfl (teq (rfl : (0 : Int32) = (0 : Int32))).2 zk) ?_
      refine Go.st (T' := T35) (g' := (mkF m 77 #[.val (.int y0), .val (.int y1), .val (.int y2), .val (.int y3), .val (.int y4), .val (.int y5), .val (.int (0 : Int32)), .val (.int (1 : Int32)), .val (.ref a20), .val (.ref a22), .val (.ref b25), .val (.int (0 : Int32))] [(.int (1 : Int32))])) (fun _ zk => XS.iconst X35.here hx rfl (hb hby at_76) zk) ?_
      refine Go.st (T' := T35) (g' := (mkF m 81 #[.val (.int y0), .val (.int y1), .val (.int y2), .val (.int y3), .val (.int y4), .val (.int y5), .val (.int (0 : Int32)), .val (.int (1 : Int32)), .val (.ref a20), .val (.ref a22), .val (.ref b25), .val (.int (0 : Int32))] [(.int (1 : Int32))])) (fun _ zk => XS.goto X35.here hx rfl (pc0 := 77) (pc' := 81) rfl (hb hby at_77) (by decide) (by decide) zk) ?_
      have cr37 := (chrK (chrE (chrE ca21 E22) E25) K26 (sfS (Safe.exa hZ.alike A25 (by decide) (by decide)) sf0))
      refine Go.retNS X35 hx hlk hS (Nat.le_trans (Nat.le_refl _) (Nat.le_trans (Nat.le_trans E22.1 E25.1) K26.1)) cr37 hZ hEL hret rfl (by simp) (hb hby at_81) (by decide) (by decide) E35 ?_
      exact ⟨rfl, N35⟩
    · refine Go.st (T' := s₁) (g' := (mkF m 16 #[.val (.int y0), .val (.int y1), .val (.int y2), .val (.int y3), .val (.int y4), .val (.int y5), .val (.int (0 : Int32)), .val (.int (2 : Int32)), .unset, .unset, .unset, .unset] [])) (fun _ zk => XS.istore X0.here hx rfl (hb hby at_14) rfl (l' := #[.val (.int y0), .val (.int y1), .val (.int y2), .val (.int y3), .val (.int y4), .val (.int y5), .val (.int (0 : Int32)), .val (.int (2 : Int32)), .unset, .unset, .unset, .unset]) rfl zk) ?_
      refine Go.st (T' := s₁) (g' := (mkF m 18 #[.val (.int y0), .val (.int y1), .val (.int y2), .val (.int y3), .val (.int y4), .val (.int y5), .val (.int (0 : Int32)), .val (.int (2 : Int32)), .unset, .unset, .unset, .unset] [(.int (0 : Int32))])) (fun _ zk => XS.iload X0.here hx rfl (hb hby at_16) rfl zk) ?_
      refine Go.st (T' := s₁) (g' := (mkF m 19 #[.val (.int y0), .val (.int y1), .val (.int y2), .val (.int y3), .val (.int y4), .val (.int y5), .val (.int (0 : Int32)), .val (.int (2 : Int32)), .unset, .unset, .unset, .unset] [(.int y2), (.int (0 : Int32))])) (fun _ zk => XS.iloadN X0.here hx rfl (hb hby at_18) rfl zk) ?_
      refine Go.st (T' := s₁) (g' := (mkF m 20 #[.val (.int y0), .val (.int y1), .val (.int y2), .val (.int y3), .val (.int y4), .val (.int y5), .val (.int (0 : Int32)), .val (.int (2 : Int32)), .unset, .unset, .unset, .unset] [(.int y3), (.int y2), (.int (0 : Int32))])) (fun _ zk => XS.iloadN X0.here hx rfl (hb hby at_19) rfl zk) ?_
      refine Go.callStS (y := (⟨"com/example/attestry/attestry/bundle/MessageTypeIsEmptyPinLaw", "draw", "(III)Ljava/lang/String;"⟩ : MethodName)) X0 hx hZ hown e0 hEL hA.1 hS (Nat.zero_le _) (w1 hw) (w2 hw) (w3 hw) (w4 hw) (by decide) (argsL := [(.int (0 : Int32)), (.int y2), (.int y3)]) (rest := []) (W := 0) (rm_draw_0 l Z a0 hw [] y2 y3 zc h0 n0 Z0 O0 CS hz) all0 rfl (lenOf pd12 rfl) rfl (by rw [hml]; rfl) rfl (by show 2 * 0 + _ ≤ _; exact Nat.le_of_eq rfl) (by decide) (by decide) (by decide) (by decide) (hb hby at_20) ?_
      intro v38 T38 h38 L38 X38 e38 q38 hS hZ hown cr38
      obtain ⟨a38, t38, k38, hv38, Nf38, E38, A38, F38, V38⟩ := q38
      subst hv38
      have N38 := Fr.app N0 Nf38
      have ca39 := hA.trans cr38
      show Go p.tables e below _ T38 (mkF m 23 #[.val (.int y0), .val (.int y1), .val (.int y2), .val (.int y3), .val (.int y4), .val (.int y5), .val (.int (0 : Int32)), .val (.int (2 : Int32)), .unset, .unset, .unset, .unset] [(.ref a38)])
      refine Go.st (T' := T38) (g' := (mkF m 25 #[.val (.int y0), .val (.int y1), .val (.int y2), .val (.int y3), .val (.int y4), .val (.int y5), .val (.int (0 : Int32)), .val (.int (2 : Int32)), .val (.ref a38), .unset, .unset, .unset] [])) (fun _ zk => XS.astore X38.here hx rfl (hb hby at_23) rfl rfl (l' := #[.val (.int y0), .val (.int y1), .val (.int y2), .val (.int y3), .val (.int y4), .val (.int y5), .val (.int (0 : Int32)), .val (.int (2 : Int32)), .val (.ref a38), .unset, .unset, .unset]) rfl zk) ?_
      refine Go.st (T' := T38) (g' := (mkF m 27 #[.val (.int y0), .val (.int y1), .val (.int y2), .val (.int y3), .val (.int y4), .val (.int y5), .val (.int (0 : Int32)), .val (.int (2 : Int32)), .val (.ref a38), .unset, .unset, .unset] [(.int (2 : Int32))])) (fun _ zk => XS.iload X38.here hx rfl (hb hby at_25) rfl zk) ?_
      refine Go.st (T' := T38) (g' := (mkF m 29 #[.val (.int y0), .val (.int y1), .val (.int y2), .val (.int y3), .val (.int y4), .val (.int y5), .val (.int (0 : Int32)), .val (.int (2 : Int32)), .val (.ref a38), .unset, .unset, .unset] [(.int y4), (.int (2 : Int32))])) (fun _ zk => XS.iload X38.here hx rfl (hb hby at_27) rfl zk) ?_
      refine Go.st (T' := T38) (g' := (mkF m 31 #[.val (.int y0), .val (.int y1), .val (.int y2), .val (.int y3), .val (.int y4), .val (.int y5), .val (.int (0 : Int32)), .val (.int (2 : Int32)), .val (.ref a38), .unset, .unset, .unset] [(.int y5), (.int y4), (.int (2 : Int32))])) (fun _ zk => XS.iload X38.here hx rfl (hb hby at_29) rfl zk) ?_
      have x41 : Ext h0 h38 := E38
      have f42 := O0.ext x41
      refine Go.callSt (y := (⟨"com/example/attestry/attestry/bundle/MessageTypeIsEmptyPinLaw", "draw", "(III)Ljava/lang/String;"⟩ : MethodName)) X38 hx hZ hown e38 (w1 hw) (w2 hw) (w3 hw) (w4 hw) (by decide) (argsL := [(.int (2 : Int32)), (.int y4), (.int y5)]) (rest := []) (W := 0) (rm_draw_2 l Z a0 hw [] y4 y5 zc h38 n0 (Nat.le_trans Z0 E38.1) f42 CS hz) rfl (lenOf pd12 rfl) rfl (by rw [hml]; rfl) rfl (by show 2 * 0 + _ ≤ _; exact Nat.le_of_eq rfl) (by decide) (by decide) (by decide) (by decide) (hb hby at_31) ?_
      intro v40 T40 h40 L40 X40 e40 q40
      obtain ⟨a40, t40, k40, b40_0, b40_1, hv40, Nf40, E40, A40, F40, V40⟩ := q40
      subst hv40
      have N40 := Fr.app N38 Nf40
      show Go p.tables e below _ T40 (mkF m 34 #[.val (.int y0), .val (.int y1), .val (.int y2), .val (.int y3), .val (.int y4), .val (.int y5), .val (.int (0 : Int32)), .val (.int (2 : Int32)), .val (.ref a38), .unset, .unset, .unset] [(.ref a40)])
      refine Go.st (T' := T40) (g' := (mkF m 36 #[.val (.int y0), .val (.int y1), .val (.int y2), .val (.int y3), .val (.int y4), .val (.int y5), .val (.int (0 : Int32)), .val (.int (2 : Int32)), .val (.ref a38), .val (.ref a40), .unset, .unset] [])) (fun _ zk => XS.astore X40.here hx rfl (hb hby at_34) rfl rfl (l' := #[.val (.int y0), .val (.int y1), .val (.int y2), .val (.int y3), .val (.int y4), .val (.int y5), .val (.int (0 : Int32)), .val (.int (2 : Int32)), .val (.ref a38), .val (.ref a40), .unset, .unset]) rfl zk) ?_
      obtain ⟨T43, h43, X43, e43, E43, A43, D43, -, st43⟩ := newO X40 hx hZ hown (w27 hw) (w28 hw) (w29 hw) e40 (g := (mkF m 36 #[.val (.int y0), .val (.int y1), .val (.int y2), .val (.int y3), .val (.int y4), .val (.int y5), .val (.int (0 : Int32)), .val (.int (2 : Int32)), .val (.ref a38), .val (.ref a40), .unset, .unset] [])) rfl (hb hby at_36) (by decide) (by decide)
      obtain ⟨b43, g43⟩ : ∃ z, z = h40.size := ⟨_, rfl⟩
      rw [← g43] at A43 D43 st43
      have F43_code : Fld Z h43 b43 "com/example/attestry/attestry/bundle/MessageType" "code" "Ljava/lang/String;" .null := D43 (Or.inr (w40 hw)) (ty := (.object "java/lang/String")) (by decide)
      have F43_triggerEvent : Fld Z h43 b43 "com/example/attestry/attestry/bundle/MessageType" "triggerEvent" "Ljava/lang/String;" .null := D43 (Or.inr (w42 hw)) (ty := (.object "java/lang/String")) (by decide)
      refine Go.st (T' := T43) (g' := (mkF m 39 #[.val (.int y0), .val (.int y1), .val (.int y2), .val (.int y3), .val (.int y4), .val (.int y5), .val (.int (0 : Int32)), .val (.int (2 : Int32)), .val (.ref a38), .val (.ref a40), .unset, .unset] [(.ref b43)])) (fun _ zk => st43 _ zk) ?_
      refine Go.st (T' := T43) (g' := (mkF m 40 #[.val (.int y0), .val (.int y1), .val (.int y2), .val (.int y3), .val (.int y4), .val (.int y5), .val (.int (0 : Int32)), .val (.int (2 : Int32)), .val (.ref a38), .val (.ref a40), .unset, .unset] [(.ref b43), (.ref b43)])) (fun _ zk => XS.dup X43.here hx rfl (hb hby at_39) rfl rfl zk) ?_
      refine Go.st (T' := T43) (g' := (mkF m 42 #[.val (.int y0), .val (.int y1), .val (.int y2), .val (.int y3), .val (.int y4), .val (.int y5), .val (.int (0 : Int32)), .val (.int (2 : Int32)), .val (.ref a38), .val (.ref a40), .unset, .unset] [(.ref a38), (.ref b43), (.ref b43)])) (fun _ zk => XS.aload X43.here hx rfl (hb hby at_40) rfl rfl zk) ?_
      refine Go.st (T' := T43) (g' := (mkF m 44 #[.val (.int y0), .val (.int y1), .val (.int y2), .val (.int y3), .val (.int y4), .val (.int y5), .val (.int (0 : Int32)), .val (.int (2 : Int32)), .val (.ref a38), .val (.ref a40), .unset, .unset] [(.ref a40), (.ref a38), (.ref b43), (.ref b43)])) (fun _ zk => XS.aload X43.here hx rfl (hb hby at_42) rfl rfl zk) ?_
      refine Go.callSp (y := (⟨"com/example/attestry/attestry/bundle/MessageType", "<init>", "(Ljava/lang/String;Ljava/lang/String;)V"⟩ : MethodName)) (a := b43) X43 hx hZ hown e43 rfl (w30 hw) (w31 hw) (w29 hw) (w32 hw) (by decide) (argsL := [(.ref a38), (.ref a40)]) (rest := [(.ref b43)]) (W := 1) (rm_mtInit l Z a0 hw [] b43 a38 a40 h43 n0 (Nat.le_trans Z0 (Nat.le_trans (Nat.le_trans E38.1 E40.1) E43.1)) A43 (Nat.le_trans Z0 (Nat.le_trans (Nat.le_trans E38.1 E40.1) (Nat.le_of_eq g43.symm))) F43_code F43_triggerEvent) rfl (lenOf pd13 rfl) rfl (by rw [hml]; rfl) rfl (by show 2 * 0 + _ ≤ _; exact Nat.le_of_eq rfl) (by decide) (by decide) (by decide) (by decide) (hb hby at_44) ?_
      intro v44 T44 h44 L44 X44 e44 q44
      obtain ⟨hv44, Nf44, K44, G44_0, G44_1⟩ := q44
      subst hv44
      have N44 := Fr.app N40 Nf44
      show Go p.tables e below _ T44 (mkF m 47 #[.val (.int y0), .val (.int y1), .val (.int y2), .val (.int y3), .val (.int y4), .val (.int y5), .val (.int (0 : Int32)), .val (.int (2 : Int32)), .val (.ref a38), .val (.ref a40), .unset, .unset] [(.ref b43)])
      refine Go.st (T' := T44) (g' := (mkF m 49 #[.val (.int y0), .val (.int y1), .val (.int y2), .val (.int y3), .val (.int y4), .val (.int y5), .val (.int (0 : Int32)), .val (.int (2 : Int32)), .val (.ref a38), .val (.ref a40), .val (.ref b43), .unset] [])) (fun _ zk => XS.astore X44.here hx rfl (hb hby at_47) rfl rfl (l' := #[.val (.int y0), .val (.int y1), .val (.int y2), .val (.int y3), .val (.int y4), .val (.int y5), .val (.int (0 : Int32)), .val (.int (2 : Int32)), .val (.ref a38), .val (.ref a40), .val (.ref b43), .unset]) rfl zk) ?_
      refine Go.st (T' := T44) (g' := (mkF m 51 #[.val (.int y0), .val (.int y1), .val (.int y2), .val (.int y3), .val (.int y4), .val (.int y5), .val (.int (0 : Int32)), .val (.int (2 : Int32)), .val (.ref a38), .val (.ref a40), .val (.ref b43), .unset] [(.int (0 : Int32))])) (fun _ zk => XS.iload X44.here hx rfl (hb hby at_49) rfl zk) ?_
      refine Go.st (T' := T44) (g' := (mkF m 54 #[.val (.int y0), .val (.int y1), .val (.int y2), .val (.int y3), .val (.int y4), .val (.int y5), .val (.int (0 : Int32)), .val (.int (2 : Int32)), .val (.ref a38), .val (.ref a40), .val (.ref b43), .unset] [])) (fun _ zk => XS.ifNo X44.here hx rfl (hb hby at_51) rfl ((if0 _ _).trans (teq (rfl : (0 : Int32) = (0 : Int32))).2) zk) ?_
      refine Go.st (T' := T44) (g' := (mkF m 56 #[.val (.int y0), .val (.int y1), .val (.int y2), .val (.int y3), .val (.int y4), .val (.int y5), .val (.int (0 : Int32)), .val (.int (2 : Int32)), .val (.ref a38), .val (.ref a40), .val (.ref b43), .unset] [(.int (2 : Int32))])) (fun _ zk => XS.iload X44.here hx rfl (hb hby at_54) rfl zk) ?_
      refine Go.st (T' := T44) (g' := (mkF m 63 #[.val (.int y0), .val (.int y1), .val (.int y2), .val (.int y3), .val (.int y4), .val (.int y5), .val (.int (0 : Int32)), .val (.int (2 : Int32)), .val (.ref a38), .val (.ref a40), .val (.ref b43), .unset] [])) (fun _ zk => XS.ifYes X44.here hx rfl (pc0 := 56) (pc' := 63) rfl (hb hby at_56) rfl ((if0 _ _).trans (feq ((by decide) : ¬ ((2 : Int32) = (0 : Int32)))).2) (by decide) (by decide) zk) ?_
      refine Go.st (T' := T44) (g' := (mkF m 64 #[.val (.int y0), .val (.int y1), .val (.int y2), .val (.int y3), .val (.int y4), .val (.int y5), .val (.int (0 : Int32)), .val (.int (2 : Int32)), .val (.ref a38), .val (.ref a40), .val (.ref b43), .unset] [(.int (0 : Int32))])) (fun _ zk => XS.iconst X44.here hx rfl (hb hby at_63) zk) ?_
      refine Go.st (T' := T44) (g' := (mkF m 66 #[.val (.int y0), .val (.int y1), .val (.int y2), .val (.int y3), .val (.int y4), .val (.int y5), .val (.int (0 : Int32)), .val (.int (2 : Int32)), .val (.ref a38), .val (.ref a40), .val (.ref b43), .val (.int (0 : Int32))] [])) (fun _ zk => XS.istore X44.here hx rfl (hb hby at_64) rfl (l' := #[.val (.int y0), .val (.int y1), .val (.int y2), .val (.int y3), .val (.int y4), .val (.int y5), .val (.int (0 : Int32)), .val (.int (2 : Int32)), .val (.ref a38), .val (.ref a40), .val (.ref b43), .val (.int (0 : Int32))]) rfl zk) ?_
      refine Go.st (T' := T44) (g' := (mkF m 68 #[.val (.int y0), .val (.int y1), .val (.int y2), .val (.int y3), .val (.int y4), .val (.int y5), .val (.int (0 : Int32)), .val (.int (2 : Int32)), .val (.ref a38), .val (.ref a40), .val (.ref b43), .val (.int (0 : Int32))] [(.ref b43)])) (fun _ zk => XS.aload X44.here hx rfl (hb hby at_66) rfl rfl zk) ?_
      have x45 : Ext h38 h44 := ((E40.tr E43).thenK K44 (allS (P := fun x => h38.size ≤ x) (Nat.le_trans E40.1 (Nat.le_of_eq g43.symm)) all0))
      have f46 := A38.ext x45
      have f47 := F38.ext x45
      have f48 := V38.ext x45
      have x49 : Ext h40 h44 := (E43.thenK K44 (allS (P := fun x => h40.size ≤ x) (Nat.le_of_eq g43.symm) all0))
      have f50 := A40.ext x49
      have f51 := F40.ext x49
      have f52 := V40.ext x49
      have f54 := (A43.keep K44)
      refine Go.callV (y := (⟨"com/example/attestry/attestry/bundle/MessageType", "isEmpty", "()Z"⟩ : MethodName)) (z := (⟨"com/example/attestry/attestry/bundle/MessageType", "isEmpty", "()Z"⟩ : MethodName)) (C := "com/example/attestry/attestry/bundle/MessageType") (a := b43) X44 hx hZ hown e44 (w43 hw) (w44 hw) (w46 hw) (w45 hw) (w29 hw) (w47 hw) (notFace_of_selects (args := #[]) (mvT hZ (w46 hw))) (by decide) f54 (argsL := []) (rest := []) (W := 0) (rm_isEmpty_02 l Z a0 hw [] b43 a38 t38 k38  a40 t40 k40 b40_0 b40_1 h44 n0 (Nat.le_trans Z0 (Nat.le_trans (Nat.le_trans (Nat.le_trans E38.1 E40.1) E43.1) K44.1)) f46 f47 f48 f50 f51 f52 G44_0 G44_1) rfl (lenOf pd4 rfl) rfl (by rw [hml]; rfl) rfl (by show 2 * 0 + _ ≤ _; exact Nat.le_of_eq rfl) (by decide) (by decide) (by decide) (by decide) (hb hby at_68) ?_
      intro v53 T53 h53 L53 X53 e53 q53
      obtain ⟨hv53, Nf53, hh53⟩ := q53
      subst hv53
      have E53 : T53.heap = h44 := e53.trans hh53
      have N53 := Fr.app N44 Nf53
      show Go p.tables e below _ T53 (mkF m 71 #[.val (.int y0), .val (.int y1), .val (.int y2), .val (.int y3), .val (.int y4), .val (.int y5), .val (.int (0 : Int32)), .val (.int (2 : Int32)), .val (.ref a38), .val (.ref a40), .val (.ref b43), .val (.int (0 : Int32))] [(.int (0 : Int32))])
      refine Go.st (T' := T53) (g' := (mkF m 73 #[.val (.int y0), .val (.int y1), .val (.int y2), .val (.int y3), .val (.int y4), .val (.int y5), .val (.int (0 : Int32)), .val (.int (2 : Int32)), .val (.ref a38), .val (.ref a40), .val (.ref b43), .val (.int (0 : Int32))] [(.int (0 : Int32)), (.int (0 : Int32))])) (fun _ zk => XS.iload X53.here hx rfl (hb hby at_71) rfl zk) ?_
      refine Go.st (T' := T53) (g' := (mkF m 76 #[.val (.int y0), .val (.int y1), .val (.int y2), .val (.int y3), .val (.int y4), .val (.int y5), .val (.int (0 : Int32)), .val (.int (2 : Int32)), .val (.ref a38), .val (.ref a40), .val (.ref b43), .val (.int (0 : Int32))] [])) (fun _ zk => XS.icmpNo X53.here hx rfl (hb hby at_73) rfl (teq (rfl : (0 : Int32) = (0 : Int32))).2 zk) ?_
      refine Go.st (T' := T53) (g' := (mkF m 77 #[.val (.int y0), .val (.int y1), .val (.int y2), .val (.int y3), .val (.int y4), .val (.int y5), .val (.int (0 : Int32)), .val (.int (2 : Int32)), .val (.ref a38), .val (.ref a40), .val (.ref b43), .val (.int (0 : Int32))] [(.int (1 : Int32))])) (fun _ zk => XS.iconst X53.here hx rfl (hb hby at_76) zk) ?_
      refine Go.st (T' := T53) (g' := (mkF m 81 #[.val (.int y0), .val (.int y1), .val (.int y2), .val (.int y3), .val (.int y4), .val (.int y5), .val (.int (0 : Int32)), .val (.int (2 : Int32)), .val (.ref a38), .val (.ref a40), .val (.ref b43), .val (.int (0 : Int32))] [(.int (1 : Int32))])) (fun _ zk => XS.goto X53.here hx rfl (pc0 := 77) (pc' := 81) rfl (hb hby at_77) (by decide) (by decide) zk) ?_
      have cr55 := (chrK (chrE (chrE ca39 E40) E43) K44 (sfS (Safe.exa hZ.alike A43 (by decide) (by decide)) sf0))
      refine Go.retNS X53 hx hlk hS (Nat.le_trans (Nat.le_refl _) (Nat.le_trans (Nat.le_trans E40.1 E43.1) K44.1)) cr55 hZ hEL hret rfl (by simp) (hb hby at_81) (by decide) (by decide) E53 ?_
      exact ⟨rfl, N53⟩
  · refine Go.st (T' := s₁) (g' := (mkF m 8 #[.val (.int y0), .val (.int y1), .val (.int y2), .val (.int y3), .val (.int y4), .val (.int y5), .val (.int (1 : Int32)), .unset, .unset, .unset, .unset, .unset] [])) (fun _ zk => XS.istore X0.here hx rfl (hb hby at_6) rfl (l' := #[.val (.int y0), .val (.int y1), .val (.int y2), .val (.int y3), .val (.int y4), .val (.int y5), .val (.int (1 : Int32)), .unset, .unset, .unset, .unset, .unset]) rfl zk) ?_
    refine Go.st (T' := s₁) (g' := (mkF m 9 #[.val (.int y0), .val (.int y1), .val (.int y2), .val (.int y3), .val (.int y4), .val (.int y5), .val (.int (1 : Int32)), .unset, .unset, .unset, .unset, .unset] [(.int y1)])) (fun _ zk => XS.iloadN X0.here hx rfl (hb hby at_8) rfl zk) ?_
    refine Go.st (T' := s₁) (g' := (mkF m 11 #[.val (.int y0), .val (.int y1), .val (.int y2), .val (.int y3), .val (.int y4), .val (.int y5), .val (.int (1 : Int32)), .unset, .unset, .unset, .unset, .unset] [(.int (2147483647 : Int32)), (.int y1)])) (fun _ zk => X0.ldcI hx hown (mvT hZ (w0 hw)) rfl (hb hby at_9) zk) ?_
    refine Go.st (T' := s₁) (g' := (mkF m 12 #[.val (.int y0), .val (.int y1), .val (.int y2), .val (.int y3), .val (.int y4), .val (.int y5), .val (.int (1 : Int32)), .unset, .unset, .unset, .unset, .unset] [(.int (y1 &&& (2147483647 : Int32)))])) (fun _ zk => XS.iand X0.here hx rfl (hb hby at_11) rfl zk) ?_
    refine Go.st (T' := s₁) (g' := (mkF m 13 #[.val (.int y0), .val (.int y1), .val (.int y2), .val (.int y3), .val (.int y4), .val (.int y5), .val (.int (1 : Int32)), .unset, .unset, .unset, .unset, .unset] [(.int (3 : Int32)), (.int (y1 &&& (2147483647 : Int32)))])) (fun _ zk => XS.iconst X0.here hx rfl (hb hby at_12) zk) ?_
    refine Go.st (T' := s₁) (g' := (mkF m 14 #[.val (.int y0), .val (.int y1), .val (.int y2), .val (.int y3), .val (.int y4), .val (.int y5), .val (.int (1 : Int32)), .unset, .unset, .unset, .unset, .unset] [(.int ((y1 &&& (2147483647 : Int32)) % (3 : Int32)))])) (fun _ zk => iremM X0 hx rfl (hb hby at_13) rfl (by decide) zk) ?_
    obtain ⟨kb, hkb⟩ : ∃ k, k = ((y1 &&& (2147483647 : Int32)) % (3 : Int32)) := ⟨_, rfl⟩
    rw [← hkb]
    have qkb := own_mod3 y1
    rw [← hkb] at qkb
    rcases qkb with rfl | rfl | rfl
    · refine Go.st (T' := s₁) (g' := (mkF m 16 #[.val (.int y0), .val (.int y1), .val (.int y2), .val (.int y3), .val (.int y4), .val (.int y5), .val (.int (1 : Int32)), .val (.int (0 : Int32)), .unset, .unset, .unset, .unset] [])) (fun _ zk => XS.istore X0.here hx rfl (hb hby at_14) rfl (l' := #[.val (.int y0), .val (.int y1), .val (.int y2), .val (.int y3), .val (.int y4), .val (.int y5), .val (.int (1 : Int32)), .val (.int (0 : Int32)), .unset, .unset, .unset, .unset]) rfl zk) ?_
      refine Go.st (T' := s₁) (g' := (mkF m 18 #[.val (.int y0), .val (.int y1), .val (.int y2), .val (.int y3), .val (.int y4), .val (.int y5), .val (.int (1 : Int32)), .val (.int (0 : Int32)), .unset, .unset, .unset, .unset] [(.int (1 : Int32))])) (fun _ zk => XS.iload X0.here hx rfl (hb hby at_16) rfl zk) ?_
      refine Go.st (T' := s₁) (g' := (mkF m 19 #[.val (.int y0), .val (.int y1), .val (.int y2), .val (.int y3), .val (.int y4), .val (.int y5), .val (.int (1 : Int32)), .val (.int (0 : Int32)), .unset, .unset, .unset, .unset] [(.int y2), (.int (1 : Int32))])) (fun _ zk => XS.iloadN X0.here hx rfl (hb hby at_18) rfl zk) ?_
      refine Go.st (T' := s₁) (g' := (mkF m 20 #[.val (.int y0), .val (.int y1), .val (.int y2), .val (.int y3), .val (.int y4), .val (.int y5), .val (.int (1 : Int32)), .val (.int (0 : Int32)), .unset, .unset, .unset, .unset] [(.int y3), (.int y2), (.int (1 : Int32))])) (fun _ zk => XS.iloadN X0.here hx rfl (hb hby at_19) rfl zk) ?_
      refine Go.callSt (y := (⟨"com/example/attestry/attestry/bundle/MessageTypeIsEmptyPinLaw", "draw", "(III)Ljava/lang/String;"⟩ : MethodName)) X0 hx hZ hown e0 (w1 hw) (w2 hw) (w3 hw) (w4 hw) (by decide) (argsL := [(.int (1 : Int32)), (.int y2), (.int y3)]) (rest := []) (W := 0) (rm_draw_1 l Z a0 hw [] y2 y3 zc h0 n0 Z0 O0 CS hz) rfl (lenOf pd12 rfl) rfl (by rw [hml]; rfl) rfl (by show 2 * 0 + _ ≤ _; exact Nat.le_of_eq rfl) (by decide) (by decide) (by decide) (by decide) (hb hby at_20) ?_
      intro v56 T56 h56 L56 X56 e56 q56
      obtain ⟨a56, t56, k56, b56_0, hv56, Nf56, E56, A56, F56, V56⟩ := q56
      subst hv56
      have N56 := Fr.app N0 Nf56
      show Go p.tables e below _ T56 (mkF m 23 #[.val (.int y0), .val (.int y1), .val (.int y2), .val (.int y3), .val (.int y4), .val (.int y5), .val (.int (1 : Int32)), .val (.int (0 : Int32)), .unset, .unset, .unset, .unset] [(.ref a56)])
      refine Go.st (T' := T56) (g' := (mkF m 25 #[.val (.int y0), .val (.int y1), .val (.int y2), .val (.int y3), .val (.int y4), .val (.int y5), .val (.int (1 : Int32)), .val (.int (0 : Int32)), .val (.ref a56), .unset, .unset, .unset] [])) (fun _ zk => XS.astore X56.here hx rfl (hb hby at_23) rfl rfl (l' := #[.val (.int y0), .val (.int y1), .val (.int y2), .val (.int y3), .val (.int y4), .val (.int y5), .val (.int (1 : Int32)), .val (.int (0 : Int32)), .val (.ref a56), .unset, .unset, .unset]) rfl zk) ?_
      refine Go.st (T' := T56) (g' := (mkF m 27 #[.val (.int y0), .val (.int y1), .val (.int y2), .val (.int y3), .val (.int y4), .val (.int y5), .val (.int (1 : Int32)), .val (.int (0 : Int32)), .val (.ref a56), .unset, .unset, .unset] [(.int (0 : Int32))])) (fun _ zk => XS.iload X56.here hx rfl (hb hby at_25) rfl zk) ?_
      refine Go.st (T' := T56) (g' := (mkF m 29 #[.val (.int y0), .val (.int y1), .val (.int y2), .val (.int y3), .val (.int y4), .val (.int y5), .val (.int (1 : Int32)), .val (.int (0 : Int32)), .val (.ref a56), .unset, .unset, .unset] [(.int y4), (.int (0 : Int32))])) (fun _ zk => XS.iload X56.here hx rfl (hb hby at_27) rfl zk) ?_
      refine Go.st (T' := T56) (g' := (mkF m 31 #[.val (.int y0), .val (.int y1), .val (.int y2), .val (.int y3), .val (.int y4), .val (.int y5), .val (.int (1 : Int32)), .val (.int (0 : Int32)), .val (.ref a56), .unset, .unset, .unset] [(.int y5), (.int y4), (.int (0 : Int32))])) (fun _ zk => XS.iload X56.here hx rfl (hb hby at_29) rfl zk) ?_
      have x58 : Ext h0 h56 := E56
      have f59 := O0.ext x58
      have cr60 := (chrE hA E56)
      refine Go.callStS (y := (⟨"com/example/attestry/attestry/bundle/MessageTypeIsEmptyPinLaw", "draw", "(III)Ljava/lang/String;"⟩ : MethodName)) X56 hx hZ hown e56 hEL cr60.1 hS (Nat.le_trans (Nat.zero_le _) E56.1) (w1 hw) (w2 hw) (w3 hw) (w4 hw) (by decide) (argsL := [(.int (0 : Int32)), (.int y4), (.int y5)]) (rest := []) (W := 0) (rm_draw_0 l Z a0 hw [] y4 y5 zc h56 n0 (Nat.le_trans Z0 E56.1) f59 CS hz) all0 rfl (lenOf pd12 rfl) rfl (by rw [hml]; rfl) rfl (by show 2 * 0 + _ ≤ _; exact Nat.le_of_eq rfl) (by decide) (by decide) (by decide) (by decide) (hb hby at_31) ?_
      intro v57 T57 h57 L57 X57 e57 q57 hS hZ hown cr57
      obtain ⟨a57, t57, k57, hv57, Nf57, E57, A57, F57, V57⟩ := q57
      subst hv57
      have N57 := Fr.app N56 Nf57
      have ca61 := cr60.trans cr57
      show Go p.tables e below _ T57 (mkF m 34 #[.val (.int y0), .val (.int y1), .val (.int y2), .val (.int y3), .val (.int y4), .val (.int y5), .val (.int (1 : Int32)), .val (.int (0 : Int32)), .val (.ref a56), .unset, .unset, .unset] [(.ref a57)])
      refine Go.st (T' := T57) (g' := (mkF m 36 #[.val (.int y0), .val (.int y1), .val (.int y2), .val (.int y3), .val (.int y4), .val (.int y5), .val (.int (1 : Int32)), .val (.int (0 : Int32)), .val (.ref a56), .val (.ref a57), .unset, .unset] [])) (fun _ zk => XS.astore X57.here hx rfl (hb hby at_34) rfl rfl (l' := #[.val (.int y0), .val (.int y1), .val (.int y2), .val (.int y3), .val (.int y4), .val (.int y5), .val (.int (1 : Int32)), .val (.int (0 : Int32)), .val (.ref a56), .val (.ref a57), .unset, .unset]) rfl zk) ?_
      obtain ⟨T62, h62, X62, e62, E62, A62, D62, -, st62⟩ := newO X57 hx hZ hown (w27 hw) (w28 hw) (w29 hw) e57 (g := (mkF m 36 #[.val (.int y0), .val (.int y1), .val (.int y2), .val (.int y3), .val (.int y4), .val (.int y5), .val (.int (1 : Int32)), .val (.int (0 : Int32)), .val (.ref a56), .val (.ref a57), .unset, .unset] [])) rfl (hb hby at_36) (by decide) (by decide)
      obtain ⟨b62, g62⟩ : ∃ z, z = h57.size := ⟨_, rfl⟩
      rw [← g62] at A62 D62 st62
      have F62_code : Fld Z h62 b62 "com/example/attestry/attestry/bundle/MessageType" "code" "Ljava/lang/String;" .null := D62 (Or.inr (w40 hw)) (ty := (.object "java/lang/String")) (by decide)
      have F62_triggerEvent : Fld Z h62 b62 "com/example/attestry/attestry/bundle/MessageType" "triggerEvent" "Ljava/lang/String;" .null := D62 (Or.inr (w42 hw)) (ty := (.object "java/lang/String")) (by decide)
      refine Go.st (T' := T62) (g' := (mkF m 39 #[.val (.int y0), .val (.int y1), .val (.int y2), .val (.int y3), .val (.int y4), .val (.int y5), .val (.int (1 : Int32)), .val (.int (0 : Int32)), .val (.ref a56), .val (.ref a57), .unset, .unset] [(.ref b62)])) (fun _ zk => st62 _ zk) ?_
      refine Go.st (T' := T62) (g' := (mkF m 40 #[.val (.int y0), .val (.int y1), .val (.int y2), .val (.int y3), .val (.int y4), .val (.int y5), .val (.int (1 : Int32)), .val (.int (0 : Int32)), .val (.ref a56), .val (.ref a57), .unset, .unset] [(.ref b62), (.ref b62)])) (fun _ zk => XS.dup X62.here hx rfl (hb hby at_39) rfl rfl zk) ?_
      refine Go.st (T' := T62) (g' := (mkF m 42 #[.val (.int y0), .val (.int y1), .val (.int y2), .val (.int y3), .val (.int y4), .val (.int y5), .val (.int (1 : Int32)), .val (.int (0 : Int32)), .val (.ref a56), .val (.ref a57), .unset, .unset] [(.ref a56), (.ref b62), (.ref b62)])) (fun _ zk => XS.aload X62.here hx rfl (hb hby at_40) rfl rfl zk) ?_
      refine Go.st (T' := T62) (g' := (mkF m 44 #[.val (.int y0), .val (.int y1), .val (.int y2), .val (.int y3), .val (.int y4), .val (.int y5), .val (.int (1 : Int32)), .val (.int (0 : Int32)), .val (.ref a56), .val (.ref a57), .unset, .unset] [(.ref a57), (.ref a56), (.ref b62), (.ref b62)])) (fun _ zk => XS.aload X62.here hx rfl (hb hby at_42) rfl rfl zk) ?_
      refine Go.callSp (y := (⟨"com/example/attestry/attestry/bundle/MessageType", "<init>", "(Ljava/lang/String;Ljava/lang/String;)V"⟩ : MethodName)) (a := b62) X62 hx hZ hown e62 rfl (w30 hw) (w31 hw) (w29 hw) (w32 hw) (by decide) (argsL := [(.ref a56), (.ref a57)]) (rest := [(.ref b62)]) (W := 1) (rm_mtInit l Z a0 hw [] b62 a56 a57 h62 n0 (Nat.le_trans Z0 (Nat.le_trans (Nat.le_trans E56.1 E57.1) E62.1)) A62 (Nat.le_trans Z0 (Nat.le_trans (Nat.le_trans E56.1 E57.1) (Nat.le_of_eq g62.symm))) F62_code F62_triggerEvent) rfl (lenOf pd13 rfl) rfl (by rw [hml]; rfl) rfl (by show 2 * 0 + _ ≤ _; exact Nat.le_of_eq rfl) (by decide) (by decide) (by decide) (by decide) (hb hby at_44) ?_
      intro v63 T63 h63 L63 X63 e63 q63
      obtain ⟨hv63, Nf63, K63, G63_0, G63_1⟩ := q63
      subst hv63
      have N63 := Fr.app N57 Nf63
      show Go p.tables e below _ T63 (mkF m 47 #[.val (.int y0), .val (.int y1), .val (.int y2), .val (.int y3), .val (.int y4), .val (.int y5), .val (.int (1 : Int32)), .val (.int (0 : Int32)), .val (.ref a56), .val (.ref a57), .unset, .unset] [(.ref b62)])
      refine Go.st (T' := T63) (g' := (mkF m 49 #[.val (.int y0), .val (.int y1), .val (.int y2), .val (.int y3), .val (.int y4), .val (.int y5), .val (.int (1 : Int32)), .val (.int (0 : Int32)), .val (.ref a56), .val (.ref a57), .val (.ref b62), .unset] [])) (fun _ zk => XS.astore X63.here hx rfl (hb hby at_47) rfl rfl (l' := #[.val (.int y0), .val (.int y1), .val (.int y2), .val (.int y3), .val (.int y4), .val (.int y5), .val (.int (1 : Int32)), .val (.int (0 : Int32)), .val (.ref a56), .val (.ref a57), .val (.ref b62), .unset]) rfl zk) ?_
      refine Go.st (T' := T63) (g' := (mkF m 51 #[.val (.int y0), .val (.int y1), .val (.int y2), .val (.int y3), .val (.int y4), .val (.int y5), .val (.int (1 : Int32)), .val (.int (0 : Int32)), .val (.ref a56), .val (.ref a57), .val (.ref b62), .unset] [(.int (1 : Int32))])) (fun _ zk => XS.iload X63.here hx rfl (hb hby at_49) rfl zk) ?_
      refine Go.st (T' := T63) (g' := (mkF m 63 #[.val (.int y0), .val (.int y1), .val (.int y2), .val (.int y3), .val (.int y4), .val (.int y5), .val (.int (1 : Int32)), .val (.int (0 : Int32)), .val (.ref a56), .val (.ref a57), .val (.ref b62), .unset] [])) (fun _ zk => XS.ifYes X63.here hx rfl (pc0 := 51) (pc' := 63) rfl (hb hby at_51) rfl ((if0 _ _).trans (feq ((by decide) : ¬ ((1 : Int32) = (0 : Int32)))).2) (by decide) (by decide) zk) ?_
      refine Go.st (T' := T63) (g' := (mkF m 64 #[.val (.int y0), .val (.int y1), .val (.int y2), .val (.int y3), .val (.int y4), .val (.int y5), .val (.int (1 : Int32)), .val (.int (0 : Int32)), .val (.ref a56), .val (.ref a57), .val (.ref b62), .unset] [(.int (0 : Int32))])) (fun _ zk => XS.iconst X63.here hx rfl (hb hby at_63) zk) ?_
      refine Go.st (T' := T63) (g' := (mkF m 66 #[.val (.int y0), .val (.int y1), .val (.int y2), .val (.int y3), .val (.int y4), .val (.int y5), .val (.int (1 : Int32)), .val (.int (0 : Int32)), .val (.ref a56), .val (.ref a57), .val (.ref b62), .val (.int (0 : Int32))] [])) (fun _ zk => XS.istore X63.here hx rfl (hb hby at_64) rfl (l' := #[.val (.int y0), .val (.int y1), .val (.int y2), .val (.int y3), .val (.int y4), .val (.int y5), .val (.int (1 : Int32)), .val (.int (0 : Int32)), .val (.ref a56), .val (.ref a57), .val (.ref b62), .val (.int (0 : Int32))]) rfl zk) ?_
      refine Go.st (T' := T63) (g' := (mkF m 68 #[.val (.int y0), .val (.int y1), .val (.int y2), .val (.int y3), .val (.int y4), .val (.int y5), .val (.int (1 : Int32)), .val (.int (0 : Int32)), .val (.ref a56), .val (.ref a57), .val (.ref b62), .val (.int (0 : Int32))] [(.ref b62)])) (fun _ zk => XS.aload X63.here hx rfl (hb hby at_66) rfl rfl zk) ?_
      have x64 : Ext h56 h63 := ((E57.tr E62).thenK K63 (allS (P := fun x => h56.size ≤ x) (Nat.le_trans E57.1 (Nat.le_of_eq g62.symm)) all0))
      have f65 := A56.ext x64
      have f66 := F56.ext x64
      have f67 := V56.ext x64
      have x68 : Ext h57 h63 := (E62.thenK K63 (allS (P := fun x => h57.size ≤ x) (Nat.le_of_eq g62.symm) all0))
      have f69 := A57.ext x68
      have f70 := F57.ext x68
      have f71 := V57.ext x68
      have f73 := (A62.keep K63)
      refine Go.callV (y := (⟨"com/example/attestry/attestry/bundle/MessageType", "isEmpty", "()Z"⟩ : MethodName)) (z := (⟨"com/example/attestry/attestry/bundle/MessageType", "isEmpty", "()Z"⟩ : MethodName)) (C := "com/example/attestry/attestry/bundle/MessageType") (a := b62) X63 hx hZ hown e63 (w43 hw) (w44 hw) (w46 hw) (w45 hw) (w29 hw) (w47 hw) (notFace_of_selects (args := #[]) (mvT hZ (w46 hw))) (by decide) f73 (argsL := []) (rest := []) (W := 0) (rm_isEmpty_10 l Z a0 hw [] b62 a56 t56 k56 b56_0 a57 t57 k57  h63 n0 (Nat.le_trans Z0 (Nat.le_trans (Nat.le_trans (Nat.le_trans E56.1 E57.1) E62.1) K63.1)) f65 f66 f67 f69 f70 f71 G63_0 G63_1) rfl (lenOf pd4 rfl) rfl (by rw [hml]; rfl) rfl (by show 2 * 0 + _ ≤ _; exact Nat.le_of_eq rfl) (by decide) (by decide) (by decide) (by decide) (hb hby at_68) ?_
      intro v72 T72 h72 L72 X72 e72 q72
      obtain ⟨hv72, Nf72, hh72⟩ := q72
      subst hv72
      have E72 : T72.heap = h63 := e72.trans hh72
      have N72 := Fr.app N63 Nf72
      show Go p.tables e below _ T72 (mkF m 71 #[.val (.int y0), .val (.int y1), .val (.int y2), .val (.int y3), .val (.int y4), .val (.int y5), .val (.int (1 : Int32)), .val (.int (0 : Int32)), .val (.ref a56), .val (.ref a57), .val (.ref b62), .val (.int (0 : Int32))] [(.int (0 : Int32))])
      refine Go.st (T' := T72) (g' := (mkF m 73 #[.val (.int y0), .val (.int y1), .val (.int y2), .val (.int y3), .val (.int y4), .val (.int y5), .val (.int (1 : Int32)), .val (.int (0 : Int32)), .val (.ref a56), .val (.ref a57), .val (.ref b62), .val (.int (0 : Int32))] [(.int (0 : Int32)), (.int (0 : Int32))])) (fun _ zk => XS.iload X72.here hx rfl (hb hby at_71) rfl zk) ?_
      refine Go.st (T' := T72) (g' := (mkF m 76 #[.val (.int y0), .val (.int y1), .val (.int y2), .val (.int y3), .val (.int y4), .val (.int y5), .val (.int (1 : Int32)), .val (.int (0 : Int32)), .val (.ref a56), .val (.ref a57), .val (.ref b62), .val (.int (0 : Int32))] [])) (fun _ zk => XS.icmpNo X72.here hx rfl (hb hby at_73) rfl (teq (rfl : (0 : Int32) = (0 : Int32))).2 zk) ?_
      refine Go.st (T' := T72) (g' := (mkF m 77 #[.val (.int y0), .val (.int y1), .val (.int y2), .val (.int y3), .val (.int y4), .val (.int y5), .val (.int (1 : Int32)), .val (.int (0 : Int32)), .val (.ref a56), .val (.ref a57), .val (.ref b62), .val (.int (0 : Int32))] [(.int (1 : Int32))])) (fun _ zk => XS.iconst X72.here hx rfl (hb hby at_76) zk) ?_
      refine Go.st (T' := T72) (g' := (mkF m 81 #[.val (.int y0), .val (.int y1), .val (.int y2), .val (.int y3), .val (.int y4), .val (.int y5), .val (.int (1 : Int32)), .val (.int (0 : Int32)), .val (.ref a56), .val (.ref a57), .val (.ref b62), .val (.int (0 : Int32))] [(.int (1 : Int32))])) (fun _ zk => XS.goto X72.here hx rfl (pc0 := 77) (pc' := 81) rfl (hb hby at_77) (by decide) (by decide) zk) ?_
      have cr74 := (chrK (chrE ca61 E62) K63 (sfS (Safe.exa hZ.alike A62 (by decide) (by decide)) sf0))
      refine Go.retNS X72 hx hlk hS (Nat.le_trans (Nat.le_refl _) (Nat.le_trans E62.1 K63.1)) cr74 hZ hEL hret rfl (by simp) (hb hby at_81) (by decide) (by decide) E72 ?_
      exact ⟨rfl, N72⟩
    · refine Go.st (T' := s₁) (g' := (mkF m 16 #[.val (.int y0), .val (.int y1), .val (.int y2), .val (.int y3), .val (.int y4), .val (.int y5), .val (.int (1 : Int32)), .val (.int (1 : Int32)), .unset, .unset, .unset, .unset] [])) (fun _ zk => XS.istore X0.here hx rfl (hb hby at_14) rfl (l' := #[.val (.int y0), .val (.int y1), .val (.int y2), .val (.int y3), .val (.int y4), .val (.int y5), .val (.int (1 : Int32)), .val (.int (1 : Int32)), .unset, .unset, .unset, .unset]) rfl zk) ?_
      refine Go.st (T' := s₁) (g' := (mkF m 18 #[.val (.int y0), .val (.int y1), .val (.int y2), .val (.int y3), .val (.int y4), .val (.int y5), .val (.int (1 : Int32)), .val (.int (1 : Int32)), .unset, .unset, .unset, .unset] [(.int (1 : Int32))])) (fun _ zk => XS.iload X0.here hx rfl (hb hby at_16) rfl zk) ?_
      refine Go.st (T' := s₁) (g' := (mkF m 19 #[.val (.int y0), .val (.int y1), .val (.int y2), .val (.int y3), .val (.int y4), .val (.int y5), .val (.int (1 : Int32)), .val (.int (1 : Int32)), .unset, .unset, .unset, .unset] [(.int y2), (.int (1 : Int32))])) (fun _ zk => XS.iloadN X0.here hx rfl (hb hby at_18) rfl zk) ?_
      refine Go.st (T' := s₁) (g' := (mkF m 20 #[.val (.int y0), .val (.int y1), .val (.int y2), .val (.int y3), .val (.int y4), .val (.int y5), .val (.int (1 : Int32)), .val (.int (1 : Int32)), .unset, .unset, .unset, .unset] [(.int y3), (.int y2), (.int (1 : Int32))])) (fun _ zk => XS.iloadN X0.here hx rfl (hb hby at_19) rfl zk) ?_
      refine Go.callSt (y := (⟨"com/example/attestry/attestry/bundle/MessageTypeIsEmptyPinLaw", "draw", "(III)Ljava/lang/String;"⟩ : MethodName)) X0 hx hZ hown e0 (w1 hw) (w2 hw) (w3 hw) (w4 hw) (by decide) (argsL := [(.int (1 : Int32)), (.int y2), (.int y3)]) (rest := []) (W := 0) (rm_draw_1 l Z a0 hw [] y2 y3 zc h0 n0 Z0 O0 CS hz) rfl (lenOf pd12 rfl) rfl (by rw [hml]; rfl) rfl (by show 2 * 0 + _ ≤ _; exact Nat.le_of_eq rfl) (by decide) (by decide) (by decide) (by decide) (hb hby at_20) ?_
      intro v75 T75 h75 L75 X75 e75 q75
      obtain ⟨a75, t75, k75, b75_0, hv75, Nf75, E75, A75, F75, V75⟩ := q75
      subst hv75
      have N75 := Fr.app N0 Nf75
      show Go p.tables e below _ T75 (mkF m 23 #[.val (.int y0), .val (.int y1), .val (.int y2), .val (.int y3), .val (.int y4), .val (.int y5), .val (.int (1 : Int32)), .val (.int (1 : Int32)), .unset, .unset, .unset, .unset] [(.ref a75)])
      refine Go.st (T' := T75) (g' := (mkF m 25 #[.val (.int y0), .val (.int y1), .val (.int y2), .val (.int y3), .val (.int y4), .val (.int y5), .val (.int (1 : Int32)), .val (.int (1 : Int32)), .val (.ref a75), .unset, .unset, .unset] [])) (fun _ zk => XS.astore X75.here hx rfl (hb hby at_23) rfl rfl (l' := #[.val (.int y0), .val (.int y1), .val (.int y2), .val (.int y3), .val (.int y4), .val (.int y5), .val (.int (1 : Int32)), .val (.int (1 : Int32)), .val (.ref a75), .unset, .unset, .unset]) rfl zk) ?_
      refine Go.st (T' := T75) (g' := (mkF m 27 #[.val (.int y0), .val (.int y1), .val (.int y2), .val (.int y3), .val (.int y4), .val (.int y5), .val (.int (1 : Int32)), .val (.int (1 : Int32)), .val (.ref a75), .unset, .unset, .unset] [(.int (1 : Int32))])) (fun _ zk => XS.iload X75.here hx rfl (hb hby at_25) rfl zk) ?_
      refine Go.st (T' := T75) (g' := (mkF m 29 #[.val (.int y0), .val (.int y1), .val (.int y2), .val (.int y3), .val (.int y4), .val (.int y5), .val (.int (1 : Int32)), .val (.int (1 : Int32)), .val (.ref a75), .unset, .unset, .unset] [(.int y4), (.int (1 : Int32))])) (fun _ zk => XS.iload X75.here hx rfl (hb hby at_27) rfl zk) ?_
      refine Go.st (T' := T75) (g' := (mkF m 31 #[.val (.int y0), .val (.int y1), .val (.int y2), .val (.int y3), .val (.int y4), .val (.int y5), .val (.int (1 : Int32)), .val (.int (1 : Int32)), .val (.ref a75), .unset, .unset, .unset] [(.int y5), (.int y4), (.int (1 : Int32))])) (fun _ zk => XS.iload X75.here hx rfl (hb hby at_29) rfl zk) ?_
      have x77 : Ext h0 h75 := E75
      have f78 := O0.ext x77
      refine Go.callSt (y := (⟨"com/example/attestry/attestry/bundle/MessageTypeIsEmptyPinLaw", "draw", "(III)Ljava/lang/String;"⟩ : MethodName)) X75 hx hZ hown e75 (w1 hw) (w2 hw) (w3 hw) (w4 hw) (by decide) (argsL := [(.int (1 : Int32)), (.int y4), (.int y5)]) (rest := []) (W := 0) (rm_draw_1 l Z a0 hw [] y4 y5 zc h75 n0 (Nat.le_trans Z0 E75.1) f78 CS hz) rfl (lenOf pd12 rfl) rfl (by rw [hml]; rfl) rfl (by show 2 * 0 + _ ≤ _; exact Nat.le_of_eq rfl) (by decide) (by decide) (by decide) (by decide) (hb hby at_31) ?_
      intro v76 T76 h76 L76 X76 e76 q76
      obtain ⟨a76, t76, k76, b76_0, hv76, Nf76, E76, A76, F76, V76⟩ := q76
      subst hv76
      have N76 := Fr.app N75 Nf76
      show Go p.tables e below _ T76 (mkF m 34 #[.val (.int y0), .val (.int y1), .val (.int y2), .val (.int y3), .val (.int y4), .val (.int y5), .val (.int (1 : Int32)), .val (.int (1 : Int32)), .val (.ref a75), .unset, .unset, .unset] [(.ref a76)])
      refine Go.st (T' := T76) (g' := (mkF m 36 #[.val (.int y0), .val (.int y1), .val (.int y2), .val (.int y3), .val (.int y4), .val (.int y5), .val (.int (1 : Int32)), .val (.int (1 : Int32)), .val (.ref a75), .val (.ref a76), .unset, .unset] [])) (fun _ zk => XS.astore X76.here hx rfl (hb hby at_34) rfl rfl (l' := #[.val (.int y0), .val (.int y1), .val (.int y2), .val (.int y3), .val (.int y4), .val (.int y5), .val (.int (1 : Int32)), .val (.int (1 : Int32)), .val (.ref a75), .val (.ref a76), .unset, .unset]) rfl zk) ?_
      obtain ⟨T79, h79, X79, e79, E79, A79, D79, -, st79⟩ := newO X76 hx hZ hown (w27 hw) (w28 hw) (w29 hw) e76 (g := (mkF m 36 #[.val (.int y0), .val (.int y1), .val (.int y2), .val (.int y3), .val (.int y4), .val (.int y5), .val (.int (1 : Int32)), .val (.int (1 : Int32)), .val (.ref a75), .val (.ref a76), .unset, .unset] [])) rfl (hb hby at_36) (by decide) (by decide)
      obtain ⟨b79, g79⟩ : ∃ z, z = h76.size := ⟨_, rfl⟩
      rw [← g79] at A79 D79 st79
      have F79_code : Fld Z h79 b79 "com/example/attestry/attestry/bundle/MessageType" "code" "Ljava/lang/String;" .null := D79 (Or.inr (w40 hw)) (ty := (.object "java/lang/String")) (by decide)
      have F79_triggerEvent : Fld Z h79 b79 "com/example/attestry/attestry/bundle/MessageType" "triggerEvent" "Ljava/lang/String;" .null := D79 (Or.inr (w42 hw)) (ty := (.object "java/lang/String")) (by decide)
      refine Go.st (T' := T79) (g' := (mkF m 39 #[.val (.int y0), .val (.int y1), .val (.int y2), .val (.int y3), .val (.int y4), .val (.int y5), .val (.int (1 : Int32)), .val (.int (1 : Int32)), .val (.ref a75), .val (.ref a76), .unset, .unset] [(.ref b79)])) (fun _ zk => st79 _ zk) ?_
      refine Go.st (T' := T79) (g' := (mkF m 40 #[.val (.int y0), .val (.int y1), .val (.int y2), .val (.int y3), .val (.int y4), .val (.int y5), .val (.int (1 : Int32)), .val (.int (1 : Int32)), .val (.ref a75), .val (.ref a76), .unset, .unset] [(.ref b79), (.ref b79)])) (fun _ zk => XS.dup X79.here hx rfl (hb hby at_39) rfl rfl zk) ?_
      refine Go.st (T' := T79) (g' := (mkF m 42 #[.val (.int y0), .val (.int y1), .val (.int y2), .val (.int y3), .val (.int y4), .val (.int y5), .val (.int (1 : Int32)), .val (.int (1 : Int32)), .val (.ref a75), .val (.ref a76), .unset, .unset] [(.ref a75), (.ref b79), (.ref b79)])) (fun _ zk => XS.aload X79.here hx rfl (hb hby at_40) rfl rfl zk) ?_
      refine Go.st (T' := T79) (g' := (mkF m 44 #[.val (.int y0), .val (.int y1), .val (.int y2), .val (.int y3), .val (.int y4), .val (.int y5), .val (.int (1 : Int32)), .val (.int (1 : Int32)), .val (.ref a75), .val (.ref a76), .unset, .unset] [(.ref a76), (.ref a75), (.ref b79), (.ref b79)])) (fun _ zk => XS.aload X79.here hx rfl (hb hby at_42) rfl rfl zk) ?_
      refine Go.callSp (y := (⟨"com/example/attestry/attestry/bundle/MessageType", "<init>", "(Ljava/lang/String;Ljava/lang/String;)V"⟩ : MethodName)) (a := b79) X79 hx hZ hown e79 rfl (w30 hw) (w31 hw) (w29 hw) (w32 hw) (by decide) (argsL := [(.ref a75), (.ref a76)]) (rest := [(.ref b79)]) (W := 1) (rm_mtInit l Z a0 hw [] b79 a75 a76 h79 n0 (Nat.le_trans Z0 (Nat.le_trans (Nat.le_trans E75.1 E76.1) E79.1)) A79 (Nat.le_trans Z0 (Nat.le_trans (Nat.le_trans E75.1 E76.1) (Nat.le_of_eq g79.symm))) F79_code F79_triggerEvent) rfl (lenOf pd13 rfl) rfl (by rw [hml]; rfl) rfl (by show 2 * 0 + _ ≤ _; exact Nat.le_of_eq rfl) (by decide) (by decide) (by decide) (by decide) (hb hby at_44) ?_
      intro v80 T80 h80 L80 X80 e80 q80
      obtain ⟨hv80, Nf80, K80, G80_0, G80_1⟩ := q80
      subst hv80
      have N80 := Fr.app N76 Nf80
      show Go p.tables e below _ T80 (mkF m 47 #[.val (.int y0), .val (.int y1), .val (.int y2), .val (.int y3), .val (.int y4), .val (.int y5), .val (.int (1 : Int32)), .val (.int (1 : Int32)), .val (.ref a75), .val (.ref a76), .unset, .unset] [(.ref b79)])
      refine Go.st (T' := T80) (g' := (mkF m 49 #[.val (.int y0), .val (.int y1), .val (.int y2), .val (.int y3), .val (.int y4), .val (.int y5), .val (.int (1 : Int32)), .val (.int (1 : Int32)), .val (.ref a75), .val (.ref a76), .val (.ref b79), .unset] [])) (fun _ zk => XS.astore X80.here hx rfl (hb hby at_47) rfl rfl (l' := #[.val (.int y0), .val (.int y1), .val (.int y2), .val (.int y3), .val (.int y4), .val (.int y5), .val (.int (1 : Int32)), .val (.int (1 : Int32)), .val (.ref a75), .val (.ref a76), .val (.ref b79), .unset]) rfl zk) ?_
      refine Go.st (T' := T80) (g' := (mkF m 51 #[.val (.int y0), .val (.int y1), .val (.int y2), .val (.int y3), .val (.int y4), .val (.int y5), .val (.int (1 : Int32)), .val (.int (1 : Int32)), .val (.ref a75), .val (.ref a76), .val (.ref b79), .unset] [(.int (1 : Int32))])) (fun _ zk => XS.iload X80.here hx rfl (hb hby at_49) rfl zk) ?_
      refine Go.st (T' := T80) (g' := (mkF m 63 #[.val (.int y0), .val (.int y1), .val (.int y2), .val (.int y3), .val (.int y4), .val (.int y5), .val (.int (1 : Int32)), .val (.int (1 : Int32)), .val (.ref a75), .val (.ref a76), .val (.ref b79), .unset] [])) (fun _ zk => XS.ifYes X80.here hx rfl (pc0 := 51) (pc' := 63) rfl (hb hby at_51) rfl ((if0 _ _).trans (feq ((by decide) : ¬ ((1 : Int32) = (0 : Int32)))).2) (by decide) (by decide) zk) ?_
      refine Go.st (T' := T80) (g' := (mkF m 64 #[.val (.int y0), .val (.int y1), .val (.int y2), .val (.int y3), .val (.int y4), .val (.int y5), .val (.int (1 : Int32)), .val (.int (1 : Int32)), .val (.ref a75), .val (.ref a76), .val (.ref b79), .unset] [(.int (0 : Int32))])) (fun _ zk => XS.iconst X80.here hx rfl (hb hby at_63) zk) ?_
      refine Go.st (T' := T80) (g' := (mkF m 66 #[.val (.int y0), .val (.int y1), .val (.int y2), .val (.int y3), .val (.int y4), .val (.int y5), .val (.int (1 : Int32)), .val (.int (1 : Int32)), .val (.ref a75), .val (.ref a76), .val (.ref b79), .val (.int (0 : Int32))] [])) (fun _ zk => XS.istore X80.here hx rfl (hb hby at_64) rfl (l' := #[.val (.int y0), .val (.int y1), .val (.int y2), .val (.int y3), .val (.int y4), .val (.int y5), .val (.int (1 : Int32)), .val (.int (1 : Int32)), .val (.ref a75), .val (.ref a76), .val (.ref b79), .val (.int (0 : Int32))]) rfl zk) ?_
      refine Go.st (T' := T80) (g' := (mkF m 68 #[.val (.int y0), .val (.int y1), .val (.int y2), .val (.int y3), .val (.int y4), .val (.int y5), .val (.int (1 : Int32)), .val (.int (1 : Int32)), .val (.ref a75), .val (.ref a76), .val (.ref b79), .val (.int (0 : Int32))] [(.ref b79)])) (fun _ zk => XS.aload X80.here hx rfl (hb hby at_66) rfl rfl zk) ?_
      have x81 : Ext h75 h80 := ((E76.tr E79).thenK K80 (allS (P := fun x => h75.size ≤ x) (Nat.le_trans E76.1 (Nat.le_of_eq g79.symm)) all0))
      have f82 := A75.ext x81
      have f83 := F75.ext x81
      have f84 := V75.ext x81
      have x85 : Ext h76 h80 := (E79.thenK K80 (allS (P := fun x => h76.size ≤ x) (Nat.le_of_eq g79.symm) all0))
      have f86 := A76.ext x85
      have f87 := F76.ext x85
      have f88 := V76.ext x85
      have f90 := (A79.keep K80)
      refine Go.callV (y := (⟨"com/example/attestry/attestry/bundle/MessageType", "isEmpty", "()Z"⟩ : MethodName)) (z := (⟨"com/example/attestry/attestry/bundle/MessageType", "isEmpty", "()Z"⟩ : MethodName)) (C := "com/example/attestry/attestry/bundle/MessageType") (a := b79) X80 hx hZ hown e80 (w43 hw) (w44 hw) (w46 hw) (w45 hw) (w29 hw) (w47 hw) (notFace_of_selects (args := #[]) (mvT hZ (w46 hw))) (by decide) f90 (argsL := []) (rest := []) (W := 0) (rm_isEmpty_11 l Z a0 hw [] b79 a75 t75 k75 b75_0 a76 t76 k76 b76_0 h80 n0 (Nat.le_trans Z0 (Nat.le_trans (Nat.le_trans (Nat.le_trans E75.1 E76.1) E79.1) K80.1)) f82 f83 f84 f86 f87 f88 G80_0 G80_1) rfl (lenOf pd4 rfl) rfl (by rw [hml]; rfl) rfl (by show 2 * 0 + _ ≤ _; exact Nat.le_of_eq rfl) (by decide) (by decide) (by decide) (by decide) (hb hby at_68) ?_
      intro v89 T89 h89 L89 X89 e89 q89
      obtain ⟨hv89, Nf89, hh89⟩ := q89
      subst hv89
      have E89 : T89.heap = h80 := e89.trans hh89
      have N89 := Fr.app N80 Nf89
      show Go p.tables e below _ T89 (mkF m 71 #[.val (.int y0), .val (.int y1), .val (.int y2), .val (.int y3), .val (.int y4), .val (.int y5), .val (.int (1 : Int32)), .val (.int (1 : Int32)), .val (.ref a75), .val (.ref a76), .val (.ref b79), .val (.int (0 : Int32))] [(.int (0 : Int32))])
      refine Go.st (T' := T89) (g' := (mkF m 73 #[.val (.int y0), .val (.int y1), .val (.int y2), .val (.int y3), .val (.int y4), .val (.int y5), .val (.int (1 : Int32)), .val (.int (1 : Int32)), .val (.ref a75), .val (.ref a76), .val (.ref b79), .val (.int (0 : Int32))] [(.int (0 : Int32)), (.int (0 : Int32))])) (fun _ zk => XS.iload X89.here hx rfl (hb hby at_71) rfl zk) ?_
      refine Go.st (T' := T89) (g' := (mkF m 76 #[.val (.int y0), .val (.int y1), .val (.int y2), .val (.int y3), .val (.int y4), .val (.int y5), .val (.int (1 : Int32)), .val (.int (1 : Int32)), .val (.ref a75), .val (.ref a76), .val (.ref b79), .val (.int (0 : Int32))] [])) (fun _ zk => XS.icmpNo X89.here hx rfl (hb hby at_73) rfl (teq (rfl : (0 : Int32) = (0 : Int32))).2 zk) ?_
      refine Go.st (T' := T89) (g' := (mkF m 77 #[.val (.int y0), .val (.int y1), .val (.int y2), .val (.int y3), .val (.int y4), .val (.int y5), .val (.int (1 : Int32)), .val (.int (1 : Int32)), .val (.ref a75), .val (.ref a76), .val (.ref b79), .val (.int (0 : Int32))] [(.int (1 : Int32))])) (fun _ zk => XS.iconst X89.here hx rfl (hb hby at_76) zk) ?_
      refine Go.st (T' := T89) (g' := (mkF m 81 #[.val (.int y0), .val (.int y1), .val (.int y2), .val (.int y3), .val (.int y4), .val (.int y5), .val (.int (1 : Int32)), .val (.int (1 : Int32)), .val (.ref a75), .val (.ref a76), .val (.ref b79), .val (.int (0 : Int32))] [(.int (1 : Int32))])) (fun _ zk => XS.goto X89.here hx rfl (pc0 := 77) (pc' := 81) rfl (hb hby at_77) (by decide) (by decide) zk) ?_
      have cr91 := (chrK (chrE (chrE (chrE hA E75) E76) E79) K80 (sfS (Safe.exa hZ.alike A79 (by decide) (by decide)) sf0))
      refine Go.retNS X89 hx hlk hS (Nat.le_trans (Nat.zero_le _) (Nat.le_trans (Nat.le_trans (Nat.le_trans E75.1 E76.1) E79.1) K80.1)) cr91 hZ hEL hret rfl (by simp) (hb hby at_81) (by decide) (by decide) E89 ?_
      exact ⟨rfl, N89⟩
    · refine Go.st (T' := s₁) (g' := (mkF m 16 #[.val (.int y0), .val (.int y1), .val (.int y2), .val (.int y3), .val (.int y4), .val (.int y5), .val (.int (1 : Int32)), .val (.int (2 : Int32)), .unset, .unset, .unset, .unset] [])) (fun _ zk => XS.istore X0.here hx rfl (hb hby at_14) rfl (l' := #[.val (.int y0), .val (.int y1), .val (.int y2), .val (.int y3), .val (.int y4), .val (.int y5), .val (.int (1 : Int32)), .val (.int (2 : Int32)), .unset, .unset, .unset, .unset]) rfl zk) ?_
      refine Go.st (T' := s₁) (g' := (mkF m 18 #[.val (.int y0), .val (.int y1), .val (.int y2), .val (.int y3), .val (.int y4), .val (.int y5), .val (.int (1 : Int32)), .val (.int (2 : Int32)), .unset, .unset, .unset, .unset] [(.int (1 : Int32))])) (fun _ zk => XS.iload X0.here hx rfl (hb hby at_16) rfl zk) ?_
      refine Go.st (T' := s₁) (g' := (mkF m 19 #[.val (.int y0), .val (.int y1), .val (.int y2), .val (.int y3), .val (.int y4), .val (.int y5), .val (.int (1 : Int32)), .val (.int (2 : Int32)), .unset, .unset, .unset, .unset] [(.int y2), (.int (1 : Int32))])) (fun _ zk => XS.iloadN X0.here hx rfl (hb hby at_18) rfl zk) ?_
      refine Go.st (T' := s₁) (g' := (mkF m 20 #[.val (.int y0), .val (.int y1), .val (.int y2), .val (.int y3), .val (.int y4), .val (.int y5), .val (.int (1 : Int32)), .val (.int (2 : Int32)), .unset, .unset, .unset, .unset] [(.int y3), (.int y2), (.int (1 : Int32))])) (fun _ zk => XS.iloadN X0.here hx rfl (hb hby at_19) rfl zk) ?_
      refine Go.callSt (y := (⟨"com/example/attestry/attestry/bundle/MessageTypeIsEmptyPinLaw", "draw", "(III)Ljava/lang/String;"⟩ : MethodName)) X0 hx hZ hown e0 (w1 hw) (w2 hw) (w3 hw) (w4 hw) (by decide) (argsL := [(.int (1 : Int32)), (.int y2), (.int y3)]) (rest := []) (W := 0) (rm_draw_1 l Z a0 hw [] y2 y3 zc h0 n0 Z0 O0 CS hz) rfl (lenOf pd12 rfl) rfl (by rw [hml]; rfl) rfl (by show 2 * 0 + _ ≤ _; exact Nat.le_of_eq rfl) (by decide) (by decide) (by decide) (by decide) (hb hby at_20) ?_
      intro v92 T92 h92 L92 X92 e92 q92
      obtain ⟨a92, t92, k92, b92_0, hv92, Nf92, E92, A92, F92, V92⟩ := q92
      subst hv92
      have N92 := Fr.app N0 Nf92
      show Go p.tables e below _ T92 (mkF m 23 #[.val (.int y0), .val (.int y1), .val (.int y2), .val (.int y3), .val (.int y4), .val (.int y5), .val (.int (1 : Int32)), .val (.int (2 : Int32)), .unset, .unset, .unset, .unset] [(.ref a92)])
      refine Go.st (T' := T92) (g' := (mkF m 25 #[.val (.int y0), .val (.int y1), .val (.int y2), .val (.int y3), .val (.int y4), .val (.int y5), .val (.int (1 : Int32)), .val (.int (2 : Int32)), .val (.ref a92), .unset, .unset, .unset] [])) (fun _ zk => XS.astore X92.here hx rfl (hb hby at_23) rfl rfl (l' := #[.val (.int y0), .val (.int y1), .val (.int y2), .val (.int y3), .val (.int y4), .val (.int y5), .val (.int (1 : Int32)), .val (.int (2 : Int32)), .val (.ref a92), .unset, .unset, .unset]) rfl zk) ?_
      refine Go.st (T' := T92) (g' := (mkF m 27 #[.val (.int y0), .val (.int y1), .val (.int y2), .val (.int y3), .val (.int y4), .val (.int y5), .val (.int (1 : Int32)), .val (.int (2 : Int32)), .val (.ref a92), .unset, .unset, .unset] [(.int (2 : Int32))])) (fun _ zk => XS.iload X92.here hx rfl (hb hby at_25) rfl zk) ?_
      refine Go.st (T' := T92) (g' := (mkF m 29 #[.val (.int y0), .val (.int y1), .val (.int y2), .val (.int y3), .val (.int y4), .val (.int y5), .val (.int (1 : Int32)), .val (.int (2 : Int32)), .val (.ref a92), .unset, .unset, .unset] [(.int y4), (.int (2 : Int32))])) (fun _ zk => XS.iload X92.here hx rfl (hb hby at_27) rfl zk) ?_
      refine Go.st (T' := T92) (g' := (mkF m 31 #[.val (.int y0), .val (.int y1), .val (.int y2), .val (.int y3), .val (.int y4), .val (.int y5), .val (.int (1 : Int32)), .val (.int (2 : Int32)), .val (.ref a92), .unset, .unset, .unset] [(.int y5), (.int y4), (.int (2 : Int32))])) (fun _ zk => XS.iload X92.here hx rfl (hb hby at_29) rfl zk) ?_
      have x94 : Ext h0 h92 := E92
      have f95 := O0.ext x94
      refine Go.callSt (y := (⟨"com/example/attestry/attestry/bundle/MessageTypeIsEmptyPinLaw", "draw", "(III)Ljava/lang/String;"⟩ : MethodName)) X92 hx hZ hown e92 (w1 hw) (w2 hw) (w3 hw) (w4 hw) (by decide) (argsL := [(.int (2 : Int32)), (.int y4), (.int y5)]) (rest := []) (W := 0) (rm_draw_2 l Z a0 hw [] y4 y5 zc h92 n0 (Nat.le_trans Z0 E92.1) f95 CS hz) rfl (lenOf pd12 rfl) rfl (by rw [hml]; rfl) rfl (by show 2 * 0 + _ ≤ _; exact Nat.le_of_eq rfl) (by decide) (by decide) (by decide) (by decide) (hb hby at_31) ?_
      intro v93 T93 h93 L93 X93 e93 q93
      obtain ⟨a93, t93, k93, b93_0, b93_1, hv93, Nf93, E93, A93, F93, V93⟩ := q93
      subst hv93
      have N93 := Fr.app N92 Nf93
      show Go p.tables e below _ T93 (mkF m 34 #[.val (.int y0), .val (.int y1), .val (.int y2), .val (.int y3), .val (.int y4), .val (.int y5), .val (.int (1 : Int32)), .val (.int (2 : Int32)), .val (.ref a92), .unset, .unset, .unset] [(.ref a93)])
      refine Go.st (T' := T93) (g' := (mkF m 36 #[.val (.int y0), .val (.int y1), .val (.int y2), .val (.int y3), .val (.int y4), .val (.int y5), .val (.int (1 : Int32)), .val (.int (2 : Int32)), .val (.ref a92), .val (.ref a93), .unset, .unset] [])) (fun _ zk => XS.astore X93.here hx rfl (hb hby at_34) rfl rfl (l' := #[.val (.int y0), .val (.int y1), .val (.int y2), .val (.int y3), .val (.int y4), .val (.int y5), .val (.int (1 : Int32)), .val (.int (2 : Int32)), .val (.ref a92), .val (.ref a93), .unset, .unset]) rfl zk) ?_
      obtain ⟨T96, h96, X96, e96, E96, A96, D96, -, st96⟩ := newO X93 hx hZ hown (w27 hw) (w28 hw) (w29 hw) e93 (g := (mkF m 36 #[.val (.int y0), .val (.int y1), .val (.int y2), .val (.int y3), .val (.int y4), .val (.int y5), .val (.int (1 : Int32)), .val (.int (2 : Int32)), .val (.ref a92), .val (.ref a93), .unset, .unset] [])) rfl (hb hby at_36) (by decide) (by decide)
      obtain ⟨b96, g96⟩ : ∃ z, z = h93.size := ⟨_, rfl⟩
      rw [← g96] at A96 D96 st96
      have F96_code : Fld Z h96 b96 "com/example/attestry/attestry/bundle/MessageType" "code" "Ljava/lang/String;" .null := D96 (Or.inr (w40 hw)) (ty := (.object "java/lang/String")) (by decide)
      have F96_triggerEvent : Fld Z h96 b96 "com/example/attestry/attestry/bundle/MessageType" "triggerEvent" "Ljava/lang/String;" .null := D96 (Or.inr (w42 hw)) (ty := (.object "java/lang/String")) (by decide)
      refine Go.st (T' := T96) (g' := (mkF m 39 #[.val (.int y0), .val (.int y1), .val (.int y2), .val (.int y3), .val (.int y4), .val (.int y5), .val (.int (1 : Int32)), .val (.int (2 : Int32)), .val (.ref a92), .val (.ref a93), .unset, .unset] [(.ref b96)])) (fun _ zk => st96 _ zk) ?_
      refine Go.st (T' := T96) (g' := (mkF m 40 #[.val (.int y0), .val (.int y1), .val (.int y2), .val (.int y3), .val (.int y4), .val (.int y5), .val (.int (1 : Int32)), .val (.int (2 : Int32)), .val (.ref a92), .val (.ref a93), .unset, .unset] [(.ref b96), (.ref b96)])) (fun _ zk => XS.dup X96.here hx rfl (hb hby at_39) rfl rfl zk) ?_
      refine Go.st (T' := T96) (g' := (mkF m 42 #[.val (.int y0), .val (.int y1), .val (.int y2), .val (.int y3), .val (.int y4), .val (.int y5), .val (.int (1 : Int32)), .val (.int (2 : Int32)), .val (.ref a92), .val (.ref a93), .unset, .unset] [(.ref a92), (.ref b96), (.ref b96)])) (fun _ zk => XS.aload X96.here hx rfl (hb hby at_40) rfl rfl zk) ?_
      refine Go.st (T' := T96) (g' := (mkF m 44 #[.val (.int y0), .val (.int y1), .val (.int y2), .val (.int y3), .val (.int y4), .val (.int y5), .val (.int (1 : Int32)), .val (.int (2 : Int32)), .val (.ref a92), .val (.ref a93), .unset, .unset] [(.ref a93), (.ref a92), (.ref b96), (.ref b96)])) (fun _ zk => XS.aload X96.here hx rfl (hb hby at_42) rfl rfl zk) ?_
      refine Go.callSp (y := (⟨"com/example/attestry/attestry/bundle/MessageType", "<init>", "(Ljava/lang/String;Ljava/lang/String;)V"⟩ : MethodName)) (a := b96) X96 hx hZ hown e96 rfl (w30 hw) (w31 hw) (w29 hw) (w32 hw) (by decide) (argsL := [(.ref a92), (.ref a93)]) (rest := [(.ref b96)]) (W := 1) (rm_mtInit l Z a0 hw [] b96 a92 a93 h96 n0 (Nat.le_trans Z0 (Nat.le_trans (Nat.le_trans E92.1 E93.1) E96.1)) A96 (Nat.le_trans Z0 (Nat.le_trans (Nat.le_trans E92.1 E93.1) (Nat.le_of_eq g96.symm))) F96_code F96_triggerEvent) rfl (lenOf pd13 rfl) rfl (by rw [hml]; rfl) rfl (by show 2 * 0 + _ ≤ _; exact Nat.le_of_eq rfl) (by decide) (by decide) (by decide) (by decide) (hb hby at_44) ?_
      intro v97 T97 h97 L97 X97 e97 q97
      obtain ⟨hv97, Nf97, K97, G97_0, G97_1⟩ := q97
      subst hv97
      have N97 := Fr.app N93 Nf97
      show Go p.tables e below _ T97 (mkF m 47 #[.val (.int y0), .val (.int y1), .val (.int y2), .val (.int y3), .val (.int y4), .val (.int y5), .val (.int (1 : Int32)), .val (.int (2 : Int32)), .val (.ref a92), .val (.ref a93), .unset, .unset] [(.ref b96)])
      refine Go.st (T' := T97) (g' := (mkF m 49 #[.val (.int y0), .val (.int y1), .val (.int y2), .val (.int y3), .val (.int y4), .val (.int y5), .val (.int (1 : Int32)), .val (.int (2 : Int32)), .val (.ref a92), .val (.ref a93), .val (.ref b96), .unset] [])) (fun _ zk => XS.astore X97.here hx rfl (hb hby at_47) rfl rfl (l' := #[.val (.int y0), .val (.int y1), .val (.int y2), .val (.int y3), .val (.int y4), .val (.int y5), .val (.int (1 : Int32)), .val (.int (2 : Int32)), .val (.ref a92), .val (.ref a93), .val (.ref b96), .unset]) rfl zk) ?_
      refine Go.st (T' := T97) (g' := (mkF m 51 #[.val (.int y0), .val (.int y1), .val (.int y2), .val (.int y3), .val (.int y4), .val (.int y5), .val (.int (1 : Int32)), .val (.int (2 : Int32)), .val (.ref a92), .val (.ref a93), .val (.ref b96), .unset] [(.int (1 : Int32))])) (fun _ zk => XS.iload X97.here hx rfl (hb hby at_49) rfl zk) ?_
      refine Go.st (T' := T97) (g' := (mkF m 63 #[.val (.int y0), .val (.int y1), .val (.int y2), .val (.int y3), .val (.int y4), .val (.int y5), .val (.int (1 : Int32)), .val (.int (2 : Int32)), .val (.ref a92), .val (.ref a93), .val (.ref b96), .unset] [])) (fun _ zk => XS.ifYes X97.here hx rfl (pc0 := 51) (pc' := 63) rfl (hb hby at_51) rfl ((if0 _ _).trans (feq ((by decide) : ¬ ((1 : Int32) = (0 : Int32)))).2) (by decide) (by decide) zk) ?_
      refine Go.st (T' := T97) (g' := (mkF m 64 #[.val (.int y0), .val (.int y1), .val (.int y2), .val (.int y3), .val (.int y4), .val (.int y5), .val (.int (1 : Int32)), .val (.int (2 : Int32)), .val (.ref a92), .val (.ref a93), .val (.ref b96), .unset] [(.int (0 : Int32))])) (fun _ zk => XS.iconst X97.here hx rfl (hb hby at_63) zk) ?_
      refine Go.st (T' := T97) (g' := (mkF m 66 #[.val (.int y0), .val (.int y1), .val (.int y2), .val (.int y3), .val (.int y4), .val (.int y5), .val (.int (1 : Int32)), .val (.int (2 : Int32)), .val (.ref a92), .val (.ref a93), .val (.ref b96), .val (.int (0 : Int32))] [])) (fun _ zk => XS.istore X97.here hx rfl (hb hby at_64) rfl (l' := #[.val (.int y0), .val (.int y1), .val (.int y2), .val (.int y3), .val (.int y4), .val (.int y5), .val (.int (1 : Int32)), .val (.int (2 : Int32)), .val (.ref a92), .val (.ref a93), .val (.ref b96), .val (.int (0 : Int32))]) rfl zk) ?_
      refine Go.st (T' := T97) (g' := (mkF m 68 #[.val (.int y0), .val (.int y1), .val (.int y2), .val (.int y3), .val (.int y4), .val (.int y5), .val (.int (1 : Int32)), .val (.int (2 : Int32)), .val (.ref a92), .val (.ref a93), .val (.ref b96), .val (.int (0 : Int32))] [(.ref b96)])) (fun _ zk => XS.aload X97.here hx rfl (hb hby at_66) rfl rfl zk) ?_
      have x98 : Ext h92 h97 := ((E93.tr E96).thenK K97 (allS (P := fun x => h92.size ≤ x) (Nat.le_trans E93.1 (Nat.le_of_eq g96.symm)) all0))
      have f99 := A92.ext x98
      have f100 := F92.ext x98
      have f101 := V92.ext x98
      have x102 : Ext h93 h97 := (E96.thenK K97 (allS (P := fun x => h93.size ≤ x) (Nat.le_of_eq g96.symm) all0))
      have f103 := A93.ext x102
      have f104 := F93.ext x102
      have f105 := V93.ext x102
      have f107 := (A96.keep K97)
      refine Go.callV (y := (⟨"com/example/attestry/attestry/bundle/MessageType", "isEmpty", "()Z"⟩ : MethodName)) (z := (⟨"com/example/attestry/attestry/bundle/MessageType", "isEmpty", "()Z"⟩ : MethodName)) (C := "com/example/attestry/attestry/bundle/MessageType") (a := b96) X97 hx hZ hown e97 (w43 hw) (w44 hw) (w46 hw) (w45 hw) (w29 hw) (w47 hw) (notFace_of_selects (args := #[]) (mvT hZ (w46 hw))) (by decide) f107 (argsL := []) (rest := []) (W := 0) (rm_isEmpty_12 l Z a0 hw [] b96 a92 t92 k92 b92_0 a93 t93 k93 b93_0 b93_1 h97 n0 (Nat.le_trans Z0 (Nat.le_trans (Nat.le_trans (Nat.le_trans E92.1 E93.1) E96.1) K97.1)) f99 f100 f101 f103 f104 f105 G97_0 G97_1) rfl (lenOf pd4 rfl) rfl (by rw [hml]; rfl) rfl (by show 2 * 0 + _ ≤ _; exact Nat.le_of_eq rfl) (by decide) (by decide) (by decide) (by decide) (hb hby at_68) ?_
      intro v106 T106 h106 L106 X106 e106 q106
      obtain ⟨hv106, Nf106, hh106⟩ := q106
      subst hv106
      have E106 : T106.heap = h97 := e106.trans hh106
      have N106 := Fr.app N97 Nf106
      show Go p.tables e below _ T106 (mkF m 71 #[.val (.int y0), .val (.int y1), .val (.int y2), .val (.int y3), .val (.int y4), .val (.int y5), .val (.int (1 : Int32)), .val (.int (2 : Int32)), .val (.ref a92), .val (.ref a93), .val (.ref b96), .val (.int (0 : Int32))] [(.int (0 : Int32))])
      refine Go.st (T' := T106) (g' := (mkF m 73 #[.val (.int y0), .val (.int y1), .val (.int y2), .val (.int y3), .val (.int y4), .val (.int y5), .val (.int (1 : Int32)), .val (.int (2 : Int32)), .val (.ref a92), .val (.ref a93), .val (.ref b96), .val (.int (0 : Int32))] [(.int (0 : Int32)), (.int (0 : Int32))])) (fun _ zk => XS.iload X106.here hx rfl (hb hby at_71) rfl zk) ?_
      refine Go.st (T' := T106) (g' := (mkF m 76 #[.val (.int y0), .val (.int y1), .val (.int y2), .val (.int y3), .val (.int y4), .val (.int y5), .val (.int (1 : Int32)), .val (.int (2 : Int32)), .val (.ref a92), .val (.ref a93), .val (.ref b96), .val (.int (0 : Int32))] [])) (fun _ zk => XS.icmpNo X106.here hx rfl (hb hby at_73) rfl (teq (rfl : (0 : Int32) = (0 : Int32))).2 zk) ?_
      refine Go.st (T' := T106) (g' := (mkF m 77 #[.val (.int y0), .val (.int y1), .val (.int y2), .val (.int y3), .val (.int y4), .val (.int y5), .val (.int (1 : Int32)), .val (.int (2 : Int32)), .val (.ref a92), .val (.ref a93), .val (.ref b96), .val (.int (0 : Int32))] [(.int (1 : Int32))])) (fun _ zk => XS.iconst X106.here hx rfl (hb hby at_76) zk) ?_
      refine Go.st (T' := T106) (g' := (mkF m 81 #[.val (.int y0), .val (.int y1), .val (.int y2), .val (.int y3), .val (.int y4), .val (.int y5), .val (.int (1 : Int32)), .val (.int (2 : Int32)), .val (.ref a92), .val (.ref a93), .val (.ref b96), .val (.int (0 : Int32))] [(.int (1 : Int32))])) (fun _ zk => XS.goto X106.here hx rfl (pc0 := 77) (pc' := 81) rfl (hb hby at_77) (by decide) (by decide) zk) ?_
      have cr108 := (chrK (chrE (chrE (chrE hA E92) E93) E96) K97 (sfS (Safe.exa hZ.alike A96 (by decide) (by decide)) sf0))
      refine Go.retNS X106 hx hlk hS (Nat.le_trans (Nat.zero_le _) (Nat.le_trans (Nat.le_trans (Nat.le_trans E92.1 E93.1) E96.1) K97.1)) cr108 hZ hEL hret rfl (by simp) (hb hby at_81) (by decide) (by decide) E106 ?_
      exact ⟨rfl, N106⟩
  · refine Go.st (T' := s₁) (g' := (mkF m 8 #[.val (.int y0), .val (.int y1), .val (.int y2), .val (.int y3), .val (.int y4), .val (.int y5), .val (.int (2 : Int32)), .unset, .unset, .unset, .unset, .unset] [])) (fun _ zk => XS.istore X0.here hx rfl (hb hby at_6) rfl (l' := #[.val (.int y0), .val (.int y1), .val (.int y2), .val (.int y3), .val (.int y4), .val (.int y5), .val (.int (2 : Int32)), .unset, .unset, .unset, .unset, .unset]) rfl zk) ?_
    refine Go.st (T' := s₁) (g' := (mkF m 9 #[.val (.int y0), .val (.int y1), .val (.int y2), .val (.int y3), .val (.int y4), .val (.int y5), .val (.int (2 : Int32)), .unset, .unset, .unset, .unset, .unset] [(.int y1)])) (fun _ zk => XS.iloadN X0.here hx rfl (hb hby at_8) rfl zk) ?_
    refine Go.st (T' := s₁) (g' := (mkF m 11 #[.val (.int y0), .val (.int y1), .val (.int y2), .val (.int y3), .val (.int y4), .val (.int y5), .val (.int (2 : Int32)), .unset, .unset, .unset, .unset, .unset] [(.int (2147483647 : Int32)), (.int y1)])) (fun _ zk => X0.ldcI hx hown (mvT hZ (w0 hw)) rfl (hb hby at_9) zk) ?_
    refine Go.st (T' := s₁) (g' := (mkF m 12 #[.val (.int y0), .val (.int y1), .val (.int y2), .val (.int y3), .val (.int y4), .val (.int y5), .val (.int (2 : Int32)), .unset, .unset, .unset, .unset, .unset] [(.int (y1 &&& (2147483647 : Int32)))])) (fun _ zk => XS.iand X0.here hx rfl (hb hby at_11) rfl zk) ?_
    refine Go.st (T' := s₁) (g' := (mkF m 13 #[.val (.int y0), .val (.int y1), .val (.int y2), .val (.int y3), .val (.int y4), .val (.int y5), .val (.int (2 : Int32)), .unset, .unset, .unset, .unset, .unset] [(.int (3 : Int32)), (.int (y1 &&& (2147483647 : Int32)))])) (fun _ zk => XS.iconst X0.here hx rfl (hb hby at_12) zk) ?_
    refine Go.st (T' := s₁) (g' := (mkF m 14 #[.val (.int y0), .val (.int y1), .val (.int y2), .val (.int y3), .val (.int y4), .val (.int y5), .val (.int (2 : Int32)), .unset, .unset, .unset, .unset, .unset] [(.int ((y1 &&& (2147483647 : Int32)) % (3 : Int32)))])) (fun _ zk => iremM X0 hx rfl (hb hby at_13) rfl (by decide) zk) ?_
    obtain ⟨kb, hkb⟩ : ∃ k, k = ((y1 &&& (2147483647 : Int32)) % (3 : Int32)) := ⟨_, rfl⟩
    rw [← hkb]
    have qkb := own_mod3 y1
    rw [← hkb] at qkb
    rcases qkb with rfl | rfl | rfl
    · refine Go.st (T' := s₁) (g' := (mkF m 16 #[.val (.int y0), .val (.int y1), .val (.int y2), .val (.int y3), .val (.int y4), .val (.int y5), .val (.int (2 : Int32)), .val (.int (0 : Int32)), .unset, .unset, .unset, .unset] [])) (fun _ zk => XS.istore X0.here hx rfl (hb hby at_14) rfl (l' := #[.val (.int y0), .val (.int y1), .val (.int y2), .val (.int y3), .val (.int y4), .val (.int y5), .val (.int (2 : Int32)), .val (.int (0 : Int32)), .unset, .unset, .unset, .unset]) rfl zk) ?_
      refine Go.st (T' := s₁) (g' := (mkF m 18 #[.val (.int y0), .val (.int y1), .val (.int y2), .val (.int y3), .val (.int y4), .val (.int y5), .val (.int (2 : Int32)), .val (.int (0 : Int32)), .unset, .unset, .unset, .unset] [(.int (2 : Int32))])) (fun _ zk => XS.iload X0.here hx rfl (hb hby at_16) rfl zk) ?_
      refine Go.st (T' := s₁) (g' := (mkF m 19 #[.val (.int y0), .val (.int y1), .val (.int y2), .val (.int y3), .val (.int y4), .val (.int y5), .val (.int (2 : Int32)), .val (.int (0 : Int32)), .unset, .unset, .unset, .unset] [(.int y2), (.int (2 : Int32))])) (fun _ zk => XS.iloadN X0.here hx rfl (hb hby at_18) rfl zk) ?_
      refine Go.st (T' := s₁) (g' := (mkF m 20 #[.val (.int y0), .val (.int y1), .val (.int y2), .val (.int y3), .val (.int y4), .val (.int y5), .val (.int (2 : Int32)), .val (.int (0 : Int32)), .unset, .unset, .unset, .unset] [(.int y3), (.int y2), (.int (2 : Int32))])) (fun _ zk => XS.iloadN X0.here hx rfl (hb hby at_19) rfl zk) ?_
      refine Go.callSt (y := (⟨"com/example/attestry/attestry/bundle/MessageTypeIsEmptyPinLaw", "draw", "(III)Ljava/lang/String;"⟩ : MethodName)) X0 hx hZ hown e0 (w1 hw) (w2 hw) (w3 hw) (w4 hw) (by decide) (argsL := [(.int (2 : Int32)), (.int y2), (.int y3)]) (rest := []) (W := 0) (rm_draw_2 l Z a0 hw [] y2 y3 zc h0 n0 Z0 O0 CS hz) rfl (lenOf pd12 rfl) rfl (by rw [hml]; rfl) rfl (by show 2 * 0 + _ ≤ _; exact Nat.le_of_eq rfl) (by decide) (by decide) (by decide) (by decide) (hb hby at_20) ?_
      intro v109 T109 h109 L109 X109 e109 q109
      obtain ⟨a109, t109, k109, b109_0, b109_1, hv109, Nf109, E109, A109, F109, V109⟩ := q109
      subst hv109
      have N109 := Fr.app N0 Nf109
      show Go p.tables e below _ T109 (mkF m 23 #[.val (.int y0), .val (.int y1), .val (.int y2), .val (.int y3), .val (.int y4), .val (.int y5), .val (.int (2 : Int32)), .val (.int (0 : Int32)), .unset, .unset, .unset, .unset] [(.ref a109)])
      refine Go.st (T' := T109) (g' := (mkF m 25 #[.val (.int y0), .val (.int y1), .val (.int y2), .val (.int y3), .val (.int y4), .val (.int y5), .val (.int (2 : Int32)), .val (.int (0 : Int32)), .val (.ref a109), .unset, .unset, .unset] [])) (fun _ zk => XS.astore X109.here hx rfl (hb hby at_23) rfl rfl (l' := #[.val (.int y0), .val (.int y1), .val (.int y2), .val (.int y3), .val (.int y4), .val (.int y5), .val (.int (2 : Int32)), .val (.int (0 : Int32)), .val (.ref a109), .unset, .unset, .unset]) rfl zk) ?_
      refine Go.st (T' := T109) (g' := (mkF m 27 #[.val (.int y0), .val (.int y1), .val (.int y2), .val (.int y3), .val (.int y4), .val (.int y5), .val (.int (2 : Int32)), .val (.int (0 : Int32)), .val (.ref a109), .unset, .unset, .unset] [(.int (0 : Int32))])) (fun _ zk => XS.iload X109.here hx rfl (hb hby at_25) rfl zk) ?_
      refine Go.st (T' := T109) (g' := (mkF m 29 #[.val (.int y0), .val (.int y1), .val (.int y2), .val (.int y3), .val (.int y4), .val (.int y5), .val (.int (2 : Int32)), .val (.int (0 : Int32)), .val (.ref a109), .unset, .unset, .unset] [(.int y4), (.int (0 : Int32))])) (fun _ zk => XS.iload X109.here hx rfl (hb hby at_27) rfl zk) ?_
      refine Go.st (T' := T109) (g' := (mkF m 31 #[.val (.int y0), .val (.int y1), .val (.int y2), .val (.int y3), .val (.int y4), .val (.int y5), .val (.int (2 : Int32)), .val (.int (0 : Int32)), .val (.ref a109), .unset, .unset, .unset] [(.int y5), (.int y4), (.int (0 : Int32))])) (fun _ zk => XS.iload X109.here hx rfl (hb hby at_29) rfl zk) ?_
      have x111 : Ext h0 h109 := E109
      have f112 := O0.ext x111
      have cr113 := (chrE hA E109)
      refine Go.callStS (y := (⟨"com/example/attestry/attestry/bundle/MessageTypeIsEmptyPinLaw", "draw", "(III)Ljava/lang/String;"⟩ : MethodName)) X109 hx hZ hown e109 hEL cr113.1 hS (Nat.le_trans (Nat.zero_le _) E109.1) (w1 hw) (w2 hw) (w3 hw) (w4 hw) (by decide) (argsL := [(.int (0 : Int32)), (.int y4), (.int y5)]) (rest := []) (W := 0) (rm_draw_0 l Z a0 hw [] y4 y5 zc h109 n0 (Nat.le_trans Z0 E109.1) f112 CS hz) all0 rfl (lenOf pd12 rfl) rfl (by rw [hml]; rfl) rfl (by show 2 * 0 + _ ≤ _; exact Nat.le_of_eq rfl) (by decide) (by decide) (by decide) (by decide) (hb hby at_31) ?_
      intro v110 T110 h110 L110 X110 e110 q110 hS hZ hown cr110
      obtain ⟨a110, t110, k110, hv110, Nf110, E110, A110, F110, V110⟩ := q110
      subst hv110
      have N110 := Fr.app N109 Nf110
      have ca114 := cr113.trans cr110
      show Go p.tables e below _ T110 (mkF m 34 #[.val (.int y0), .val (.int y1), .val (.int y2), .val (.int y3), .val (.int y4), .val (.int y5), .val (.int (2 : Int32)), .val (.int (0 : Int32)), .val (.ref a109), .unset, .unset, .unset] [(.ref a110)])
      refine Go.st (T' := T110) (g' := (mkF m 36 #[.val (.int y0), .val (.int y1), .val (.int y2), .val (.int y3), .val (.int y4), .val (.int y5), .val (.int (2 : Int32)), .val (.int (0 : Int32)), .val (.ref a109), .val (.ref a110), .unset, .unset] [])) (fun _ zk => XS.astore X110.here hx rfl (hb hby at_34) rfl rfl (l' := #[.val (.int y0), .val (.int y1), .val (.int y2), .val (.int y3), .val (.int y4), .val (.int y5), .val (.int (2 : Int32)), .val (.int (0 : Int32)), .val (.ref a109), .val (.ref a110), .unset, .unset]) rfl zk) ?_
      obtain ⟨T115, h115, X115, e115, E115, A115, D115, -, st115⟩ := newO X110 hx hZ hown (w27 hw) (w28 hw) (w29 hw) e110 (g := (mkF m 36 #[.val (.int y0), .val (.int y1), .val (.int y2), .val (.int y3), .val (.int y4), .val (.int y5), .val (.int (2 : Int32)), .val (.int (0 : Int32)), .val (.ref a109), .val (.ref a110), .unset, .unset] [])) rfl (hb hby at_36) (by decide) (by decide)
      obtain ⟨b115, g115⟩ : ∃ z, z = h110.size := ⟨_, rfl⟩
      rw [← g115] at A115 D115 st115
      have F115_code : Fld Z h115 b115 "com/example/attestry/attestry/bundle/MessageType" "code" "Ljava/lang/String;" .null := D115 (Or.inr (w40 hw)) (ty := (.object "java/lang/String")) (by decide)
      have F115_triggerEvent : Fld Z h115 b115 "com/example/attestry/attestry/bundle/MessageType" "triggerEvent" "Ljava/lang/String;" .null := D115 (Or.inr (w42 hw)) (ty := (.object "java/lang/String")) (by decide)
      refine Go.st (T' := T115) (g' := (mkF m 39 #[.val (.int y0), .val (.int y1), .val (.int y2), .val (.int y3), .val (.int y4), .val (.int y5), .val (.int (2 : Int32)), .val (.int (0 : Int32)), .val (.ref a109), .val (.ref a110), .unset, .unset] [(.ref b115)])) (fun _ zk => st115 _ zk) ?_
      refine Go.st (T' := T115) (g' := (mkF m 40 #[.val (.int y0), .val (.int y1), .val (.int y2), .val (.int y3), .val (.int y4), .val (.int y5), .val (.int (2 : Int32)), .val (.int (0 : Int32)), .val (.ref a109), .val (.ref a110), .unset, .unset] [(.ref b115), (.ref b115)])) (fun _ zk => XS.dup X115.here hx rfl (hb hby at_39) rfl rfl zk) ?_
      refine Go.st (T' := T115) (g' := (mkF m 42 #[.val (.int y0), .val (.int y1), .val (.int y2), .val (.int y3), .val (.int y4), .val (.int y5), .val (.int (2 : Int32)), .val (.int (0 : Int32)), .val (.ref a109), .val (.ref a110), .unset, .unset] [(.ref a109), (.ref b115), (.ref b115)])) (fun _ zk => XS.aload X115.here hx rfl (hb hby at_40) rfl rfl zk) ?_
      refine Go.st (T' := T115) (g' := (mkF m 44 #[.val (.int y0), .val (.int y1), .val (.int y2), .val (.int y3), .val (.int y4), .val (.int y5), .val (.int (2 : Int32)), .val (.int (0 : Int32)), .val (.ref a109), .val (.ref a110), .unset, .unset] [(.ref a110), (.ref a109), (.ref b115), (.ref b115)])) (fun _ zk => XS.aload X115.here hx rfl (hb hby at_42) rfl rfl zk) ?_
      refine Go.callSp (y := (⟨"com/example/attestry/attestry/bundle/MessageType", "<init>", "(Ljava/lang/String;Ljava/lang/String;)V"⟩ : MethodName)) (a := b115) X115 hx hZ hown e115 rfl (w30 hw) (w31 hw) (w29 hw) (w32 hw) (by decide) (argsL := [(.ref a109), (.ref a110)]) (rest := [(.ref b115)]) (W := 1) (rm_mtInit l Z a0 hw [] b115 a109 a110 h115 n0 (Nat.le_trans Z0 (Nat.le_trans (Nat.le_trans E109.1 E110.1) E115.1)) A115 (Nat.le_trans Z0 (Nat.le_trans (Nat.le_trans E109.1 E110.1) (Nat.le_of_eq g115.symm))) F115_code F115_triggerEvent) rfl (lenOf pd13 rfl) rfl (by rw [hml]; rfl) rfl (by show 2 * 0 + _ ≤ _; exact Nat.le_of_eq rfl) (by decide) (by decide) (by decide) (by decide) (hb hby at_44) ?_
      intro v116 T116 h116 L116 X116 e116 q116
      obtain ⟨hv116, Nf116, K116, G116_0, G116_1⟩ := q116
      subst hv116
      have N116 := Fr.app N110 Nf116
      show Go p.tables e below _ T116 (mkF m 47 #[.val (.int y0), .val (.int y1), .val (.int y2), .val (.int y3), .val (.int y4), .val (.int y5), .val (.int (2 : Int32)), .val (.int (0 : Int32)), .val (.ref a109), .val (.ref a110), .unset, .unset] [(.ref b115)])
      refine Go.st (T' := T116) (g' := (mkF m 49 #[.val (.int y0), .val (.int y1), .val (.int y2), .val (.int y3), .val (.int y4), .val (.int y5), .val (.int (2 : Int32)), .val (.int (0 : Int32)), .val (.ref a109), .val (.ref a110), .val (.ref b115), .unset] [])) (fun _ zk => XS.astore X116.here hx rfl (hb hby at_47) rfl rfl (l' := #[.val (.int y0), .val (.int y1), .val (.int y2), .val (.int y3), .val (.int y4), .val (.int y5), .val (.int (2 : Int32)), .val (.int (0 : Int32)), .val (.ref a109), .val (.ref a110), .val (.ref b115), .unset]) rfl zk) ?_
      refine Go.st (T' := T116) (g' := (mkF m 51 #[.val (.int y0), .val (.int y1), .val (.int y2), .val (.int y3), .val (.int y4), .val (.int y5), .val (.int (2 : Int32)), .val (.int (0 : Int32)), .val (.ref a109), .val (.ref a110), .val (.ref b115), .unset] [(.int (2 : Int32))])) (fun _ zk => XS.iload X116.here hx rfl (hb hby at_49) rfl zk) ?_
      refine Go.st (T' := T116) (g' := (mkF m 63 #[.val (.int y0), .val (.int y1), .val (.int y2), .val (.int y3), .val (.int y4), .val (.int y5), .val (.int (2 : Int32)), .val (.int (0 : Int32)), .val (.ref a109), .val (.ref a110), .val (.ref b115), .unset] [])) (fun _ zk => XS.ifYes X116.here hx rfl (pc0 := 51) (pc' := 63) rfl (hb hby at_51) rfl ((if0 _ _).trans (feq ((by decide) : ¬ ((2 : Int32) = (0 : Int32)))).2) (by decide) (by decide) zk) ?_
      refine Go.st (T' := T116) (g' := (mkF m 64 #[.val (.int y0), .val (.int y1), .val (.int y2), .val (.int y3), .val (.int y4), .val (.int y5), .val (.int (2 : Int32)), .val (.int (0 : Int32)), .val (.ref a109), .val (.ref a110), .val (.ref b115), .unset] [(.int (0 : Int32))])) (fun _ zk => XS.iconst X116.here hx rfl (hb hby at_63) zk) ?_
      refine Go.st (T' := T116) (g' := (mkF m 66 #[.val (.int y0), .val (.int y1), .val (.int y2), .val (.int y3), .val (.int y4), .val (.int y5), .val (.int (2 : Int32)), .val (.int (0 : Int32)), .val (.ref a109), .val (.ref a110), .val (.ref b115), .val (.int (0 : Int32))] [])) (fun _ zk => XS.istore X116.here hx rfl (hb hby at_64) rfl (l' := #[.val (.int y0), .val (.int y1), .val (.int y2), .val (.int y3), .val (.int y4), .val (.int y5), .val (.int (2 : Int32)), .val (.int (0 : Int32)), .val (.ref a109), .val (.ref a110), .val (.ref b115), .val (.int (0 : Int32))]) rfl zk) ?_
      refine Go.st (T' := T116) (g' := (mkF m 68 #[.val (.int y0), .val (.int y1), .val (.int y2), .val (.int y3), .val (.int y4), .val (.int y5), .val (.int (2 : Int32)), .val (.int (0 : Int32)), .val (.ref a109), .val (.ref a110), .val (.ref b115), .val (.int (0 : Int32))] [(.ref b115)])) (fun _ zk => XS.aload X116.here hx rfl (hb hby at_66) rfl rfl zk) ?_
      have x117 : Ext h109 h116 := ((E110.tr E115).thenK K116 (allS (P := fun x => h109.size ≤ x) (Nat.le_trans E110.1 (Nat.le_of_eq g115.symm)) all0))
      have f118 := A109.ext x117
      have f119 := F109.ext x117
      have f120 := V109.ext x117
      have x121 : Ext h110 h116 := (E115.thenK K116 (allS (P := fun x => h110.size ≤ x) (Nat.le_of_eq g115.symm) all0))
      have f122 := A110.ext x121
      have f123 := F110.ext x121
      have f124 := V110.ext x121
      have f126 := (A115.keep K116)
      refine Go.callV (y := (⟨"com/example/attestry/attestry/bundle/MessageType", "isEmpty", "()Z"⟩ : MethodName)) (z := (⟨"com/example/attestry/attestry/bundle/MessageType", "isEmpty", "()Z"⟩ : MethodName)) (C := "com/example/attestry/attestry/bundle/MessageType") (a := b115) X116 hx hZ hown e116 (w43 hw) (w44 hw) (w46 hw) (w45 hw) (w29 hw) (w47 hw) (notFace_of_selects (args := #[]) (mvT hZ (w46 hw))) (by decide) f126 (argsL := []) (rest := []) (W := 0) (rm_isEmpty_20 l Z a0 hw [] b115 a109 t109 k109 b109_0 b109_1 a110 t110 k110  h116 n0 (Nat.le_trans Z0 (Nat.le_trans (Nat.le_trans (Nat.le_trans E109.1 E110.1) E115.1) K116.1)) f118 f119 f120 f122 f123 f124 G116_0 G116_1) rfl (lenOf pd4 rfl) rfl (by rw [hml]; rfl) rfl (by show 2 * 0 + _ ≤ _; exact Nat.le_of_eq rfl) (by decide) (by decide) (by decide) (by decide) (hb hby at_68) ?_
      intro v125 T125 h125 L125 X125 e125 q125
      obtain ⟨hv125, Nf125, hh125⟩ := q125
      subst hv125
      have E125 : T125.heap = h116 := e125.trans hh125
      have N125 := Fr.app N116 Nf125
      show Go p.tables e below _ T125 (mkF m 71 #[.val (.int y0), .val (.int y1), .val (.int y2), .val (.int y3), .val (.int y4), .val (.int y5), .val (.int (2 : Int32)), .val (.int (0 : Int32)), .val (.ref a109), .val (.ref a110), .val (.ref b115), .val (.int (0 : Int32))] [(.int (0 : Int32))])
      refine Go.st (T' := T125) (g' := (mkF m 73 #[.val (.int y0), .val (.int y1), .val (.int y2), .val (.int y3), .val (.int y4), .val (.int y5), .val (.int (2 : Int32)), .val (.int (0 : Int32)), .val (.ref a109), .val (.ref a110), .val (.ref b115), .val (.int (0 : Int32))] [(.int (0 : Int32)), (.int (0 : Int32))])) (fun _ zk => XS.iload X125.here hx rfl (hb hby at_71) rfl zk) ?_
      refine Go.st (T' := T125) (g' := (mkF m 76 #[.val (.int y0), .val (.int y1), .val (.int y2), .val (.int y3), .val (.int y4), .val (.int y5), .val (.int (2 : Int32)), .val (.int (0 : Int32)), .val (.ref a109), .val (.ref a110), .val (.ref b115), .val (.int (0 : Int32))] [])) (fun _ zk => XS.icmpNo X125.here hx rfl (hb hby at_73) rfl (teq (rfl : (0 : Int32) = (0 : Int32))).2 zk) ?_
      refine Go.st (T' := T125) (g' := (mkF m 77 #[.val (.int y0), .val (.int y1), .val (.int y2), .val (.int y3), .val (.int y4), .val (.int y5), .val (.int (2 : Int32)), .val (.int (0 : Int32)), .val (.ref a109), .val (.ref a110), .val (.ref b115), .val (.int (0 : Int32))] [(.int (1 : Int32))])) (fun _ zk => XS.iconst X125.here hx rfl (hb hby at_76) zk) ?_
      refine Go.st (T' := T125) (g' := (mkF m 81 #[.val (.int y0), .val (.int y1), .val (.int y2), .val (.int y3), .val (.int y4), .val (.int y5), .val (.int (2 : Int32)), .val (.int (0 : Int32)), .val (.ref a109), .val (.ref a110), .val (.ref b115), .val (.int (0 : Int32))] [(.int (1 : Int32))])) (fun _ zk => XS.goto X125.here hx rfl (pc0 := 77) (pc' := 81) rfl (hb hby at_77) (by decide) (by decide) zk) ?_
      have cr127 := (chrK (chrE ca114 E115) K116 (sfS (Safe.exa hZ.alike A115 (by decide) (by decide)) sf0))
      refine Go.retNS X125 hx hlk hS (Nat.le_trans (Nat.le_refl _) (Nat.le_trans E115.1 K116.1)) cr127 hZ hEL hret rfl (by simp) (hb hby at_81) (by decide) (by decide) E125 ?_
      exact ⟨rfl, N125⟩
    · refine Go.st (T' := s₁) (g' := (mkF m 16 #[.val (.int y0), .val (.int y1), .val (.int y2), .val (.int y3), .val (.int y4), .val (.int y5), .val (.int (2 : Int32)), .val (.int (1 : Int32)), .unset, .unset, .unset, .unset] [])) (fun _ zk => XS.istore X0.here hx rfl (hb hby at_14) rfl (l' := #[.val (.int y0), .val (.int y1), .val (.int y2), .val (.int y3), .val (.int y4), .val (.int y5), .val (.int (2 : Int32)), .val (.int (1 : Int32)), .unset, .unset, .unset, .unset]) rfl zk) ?_
      refine Go.st (T' := s₁) (g' := (mkF m 18 #[.val (.int y0), .val (.int y1), .val (.int y2), .val (.int y3), .val (.int y4), .val (.int y5), .val (.int (2 : Int32)), .val (.int (1 : Int32)), .unset, .unset, .unset, .unset] [(.int (2 : Int32))])) (fun _ zk => XS.iload X0.here hx rfl (hb hby at_16) rfl zk) ?_
      refine Go.st (T' := s₁) (g' := (mkF m 19 #[.val (.int y0), .val (.int y1), .val (.int y2), .val (.int y3), .val (.int y4), .val (.int y5), .val (.int (2 : Int32)), .val (.int (1 : Int32)), .unset, .unset, .unset, .unset] [(.int y2), (.int (2 : Int32))])) (fun _ zk => XS.iloadN X0.here hx rfl (hb hby at_18) rfl zk) ?_
      refine Go.st (T' := s₁) (g' := (mkF m 20 #[.val (.int y0), .val (.int y1), .val (.int y2), .val (.int y3), .val (.int y4), .val (.int y5), .val (.int (2 : Int32)), .val (.int (1 : Int32)), .unset, .unset, .unset, .unset] [(.int y3), (.int y2), (.int (2 : Int32))])) (fun _ zk => XS.iloadN X0.here hx rfl (hb hby at_19) rfl zk) ?_
      refine Go.callSt (y := (⟨"com/example/attestry/attestry/bundle/MessageTypeIsEmptyPinLaw", "draw", "(III)Ljava/lang/String;"⟩ : MethodName)) X0 hx hZ hown e0 (w1 hw) (w2 hw) (w3 hw) (w4 hw) (by decide) (argsL := [(.int (2 : Int32)), (.int y2), (.int y3)]) (rest := []) (W := 0) (rm_draw_2 l Z a0 hw [] y2 y3 zc h0 n0 Z0 O0 CS hz) rfl (lenOf pd12 rfl) rfl (by rw [hml]; rfl) rfl (by show 2 * 0 + _ ≤ _; exact Nat.le_of_eq rfl) (by decide) (by decide) (by decide) (by decide) (hb hby at_20) ?_
      intro v128 T128 h128 L128 X128 e128 q128
      obtain ⟨a128, t128, k128, b128_0, b128_1, hv128, Nf128, E128, A128, F128, V128⟩ := q128
      subst hv128
      have N128 := Fr.app N0 Nf128
      show Go p.tables e below _ T128 (mkF m 23 #[.val (.int y0), .val (.int y1), .val (.int y2), .val (.int y3), .val (.int y4), .val (.int y5), .val (.int (2 : Int32)), .val (.int (1 : Int32)), .unset, .unset, .unset, .unset] [(.ref a128)])
      refine Go.st (T' := T128) (g' := (mkF m 25 #[.val (.int y0), .val (.int y1), .val (.int y2), .val (.int y3), .val (.int y4), .val (.int y5), .val (.int (2 : Int32)), .val (.int (1 : Int32)), .val (.ref a128), .unset, .unset, .unset] [])) (fun _ zk => XS.astore X128.here hx rfl (hb hby at_23) rfl rfl (l' := #[.val (.int y0), .val (.int y1), .val (.int y2), .val (.int y3), .val (.int y4), .val (.int y5), .val (.int (2 : Int32)), .val (.int (1 : Int32)), .val (.ref a128), .unset, .unset, .unset]) rfl zk) ?_
      refine Go.st (T' := T128) (g' := (mkF m 27 #[.val (.int y0), .val (.int y1), .val (.int y2), .val (.int y3), .val (.int y4), .val (.int y5), .val (.int (2 : Int32)), .val (.int (1 : Int32)), .val (.ref a128), .unset, .unset, .unset] [(.int (1 : Int32))])) (fun _ zk => XS.iload X128.here hx rfl (hb hby at_25) rfl zk) ?_
      refine Go.st (T' := T128) (g' := (mkF m 29 #[.val (.int y0), .val (.int y1), .val (.int y2), .val (.int y3), .val (.int y4), .val (.int y5), .val (.int (2 : Int32)), .val (.int (1 : Int32)), .val (.ref a128), .unset, .unset, .unset] [(.int y4), (.int (1 : Int32))])) (fun _ zk => XS.iload X128.here hx rfl (hb hby at_27) rfl zk) ?_
      refine Go.st (T' := T128) (g' := (mkF m 31 #[.val (.int y0), .val (.int y1), .val (.int y2), .val (.int y3), .val (.int y4), .val (.int y5), .val (.int (2 : Int32)), .val (.int (1 : Int32)), .val (.ref a128), .unset, .unset, .unset] [(.int y5), (.int y4), (.int (1 : Int32))])) (fun _ zk => XS.iload X128.here hx rfl (hb hby at_29) rfl zk) ?_
      have x130 : Ext h0 h128 := E128
      have f131 := O0.ext x130
      refine Go.callSt (y := (⟨"com/example/attestry/attestry/bundle/MessageTypeIsEmptyPinLaw", "draw", "(III)Ljava/lang/String;"⟩ : MethodName)) X128 hx hZ hown e128 (w1 hw) (w2 hw) (w3 hw) (w4 hw) (by decide) (argsL := [(.int (1 : Int32)), (.int y4), (.int y5)]) (rest := []) (W := 0) (rm_draw_1 l Z a0 hw [] y4 y5 zc h128 n0 (Nat.le_trans Z0 E128.1) f131 CS hz) rfl (lenOf pd12 rfl) rfl (by rw [hml]; rfl) rfl (by show 2 * 0 + _ ≤ _; exact Nat.le_of_eq rfl) (by decide) (by decide) (by decide) (by decide) (hb hby at_31) ?_
      intro v129 T129 h129 L129 X129 e129 q129
      obtain ⟨a129, t129, k129, b129_0, hv129, Nf129, E129, A129, F129, V129⟩ := q129
      subst hv129
      have N129 := Fr.app N128 Nf129
      show Go p.tables e below _ T129 (mkF m 34 #[.val (.int y0), .val (.int y1), .val (.int y2), .val (.int y3), .val (.int y4), .val (.int y5), .val (.int (2 : Int32)), .val (.int (1 : Int32)), .val (.ref a128), .unset, .unset, .unset] [(.ref a129)])
      refine Go.st (T' := T129) (g' := (mkF m 36 #[.val (.int y0), .val (.int y1), .val (.int y2), .val (.int y3), .val (.int y4), .val (.int y5), .val (.int (2 : Int32)), .val (.int (1 : Int32)), .val (.ref a128), .val (.ref a129), .unset, .unset] [])) (fun _ zk => XS.astore X129.here hx rfl (hb hby at_34) rfl rfl (l' := #[.val (.int y0), .val (.int y1), .val (.int y2), .val (.int y3), .val (.int y4), .val (.int y5), .val (.int (2 : Int32)), .val (.int (1 : Int32)), .val (.ref a128), .val (.ref a129), .unset, .unset]) rfl zk) ?_
      obtain ⟨T132, h132, X132, e132, E132, A132, D132, -, st132⟩ := newO X129 hx hZ hown (w27 hw) (w28 hw) (w29 hw) e129 (g := (mkF m 36 #[.val (.int y0), .val (.int y1), .val (.int y2), .val (.int y3), .val (.int y4), .val (.int y5), .val (.int (2 : Int32)), .val (.int (1 : Int32)), .val (.ref a128), .val (.ref a129), .unset, .unset] [])) rfl (hb hby at_36) (by decide) (by decide)
      obtain ⟨b132, g132⟩ : ∃ z, z = h129.size := ⟨_, rfl⟩
      rw [← g132] at A132 D132 st132
      have F132_code : Fld Z h132 b132 "com/example/attestry/attestry/bundle/MessageType" "code" "Ljava/lang/String;" .null := D132 (Or.inr (w40 hw)) (ty := (.object "java/lang/String")) (by decide)
      have F132_triggerEvent : Fld Z h132 b132 "com/example/attestry/attestry/bundle/MessageType" "triggerEvent" "Ljava/lang/String;" .null := D132 (Or.inr (w42 hw)) (ty := (.object "java/lang/String")) (by decide)
      refine Go.st (T' := T132) (g' := (mkF m 39 #[.val (.int y0), .val (.int y1), .val (.int y2), .val (.int y3), .val (.int y4), .val (.int y5), .val (.int (2 : Int32)), .val (.int (1 : Int32)), .val (.ref a128), .val (.ref a129), .unset, .unset] [(.ref b132)])) (fun _ zk => st132 _ zk) ?_
      refine Go.st (T' := T132) (g' := (mkF m 40 #[.val (.int y0), .val (.int y1), .val (.int y2), .val (.int y3), .val (.int y4), .val (.int y5), .val (.int (2 : Int32)), .val (.int (1 : Int32)), .val (.ref a128), .val (.ref a129), .unset, .unset] [(.ref b132), (.ref b132)])) (fun _ zk => XS.dup X132.here hx rfl (hb hby at_39) rfl rfl zk) ?_
      refine Go.st (T' := T132) (g' := (mkF m 42 #[.val (.int y0), .val (.int y1), .val (.int y2), .val (.int y3), .val (.int y4), .val (.int y5), .val (.int (2 : Int32)), .val (.int (1 : Int32)), .val (.ref a128), .val (.ref a129), .unset, .unset] [(.ref a128), (.ref b132), (.ref b132)])) (fun _ zk => XS.aload X132.here hx rfl (hb hby at_40) rfl rfl zk) ?_
      refine Go.st (T' := T132) (g' := (mkF m 44 #[.val (.int y0), .val (.int y1), .val (.int y2), .val (.int y3), .val (.int y4), .val (.int y5), .val (.int (2 : Int32)), .val (.int (1 : Int32)), .val (.ref a128), .val (.ref a129), .unset, .unset] [(.ref a129), (.ref a128), (.ref b132), (.ref b132)])) (fun _ zk => XS.aload X132.here hx rfl (hb hby at_42) rfl rfl zk) ?_
      refine Go.callSp (y := (⟨"com/example/attestry/attestry/bundle/MessageType", "<init>", "(Ljava/lang/String;Ljava/lang/String;)V"⟩ : MethodName)) (a := b132) X132 hx hZ hown e132 rfl (w30 hw) (w31 hw) (w29 hw) (w32 hw) (by decide) (argsL := [(.ref a128), (.ref a129)]) (rest := [(.ref b132)]) (W := 1) (rm_mtInit l Z a0 hw [] b132 a128 a129 h132 n0 (Nat.le_trans Z0 (Nat.le_trans (Nat.le_trans E128.1 E129.1) E132.1)) A132 (Nat.le_trans Z0 (Nat.le_trans (Nat.le_trans E128.1 E129.1) (Nat.le_of_eq g132.symm))) F132_code F132_triggerEvent) rfl (lenOf pd13 rfl) rfl (by rw [hml]; rfl) rfl (by show 2 * 0 + _ ≤ _; exact Nat.le_of_eq rfl) (by decide) (by decide) (by decide) (by decide) (hb hby at_44) ?_
      intro v133 T133 h133 L133 X133 e133 q133
      obtain ⟨hv133, Nf133, K133, G133_0, G133_1⟩ := q133
      subst hv133
      have N133 := Fr.app N129 Nf133
      show Go p.tables e below _ T133 (mkF m 47 #[.val (.int y0), .val (.int y1), .val (.int y2), .val (.int y3), .val (.int y4), .val (.int y5), .val (.int (2 : Int32)), .val (.int (1 : Int32)), .val (.ref a128), .val (.ref a129), .unset, .unset] [(.ref b132)])
      refine Go.st (T' := T133) (g' := (mkF m 49 #[.val (.int y0), .val (.int y1), .val (.int y2), .val (.int y3), .val (.int y4), .val (.int y5), .val (.int (2 : Int32)), .val (.int (1 : Int32)), .val (.ref a128), .val (.ref a129), .val (.ref b132), .unset] [])) (fun _ zk => XS.astore X133.here hx rfl (hb hby at_47) rfl rfl (l' := #[.val (.int y0), .val (.int y1), .val (.int y2), .val (.int y3), .val (.int y4), .val (.int y5), .val (.int (2 : Int32)), .val (.int (1 : Int32)), .val (.ref a128), .val (.ref a129), .val (.ref b132), .unset]) rfl zk) ?_
      refine Go.st (T' := T133) (g' := (mkF m 51 #[.val (.int y0), .val (.int y1), .val (.int y2), .val (.int y3), .val (.int y4), .val (.int y5), .val (.int (2 : Int32)), .val (.int (1 : Int32)), .val (.ref a128), .val (.ref a129), .val (.ref b132), .unset] [(.int (2 : Int32))])) (fun _ zk => XS.iload X133.here hx rfl (hb hby at_49) rfl zk) ?_
      refine Go.st (T' := T133) (g' := (mkF m 63 #[.val (.int y0), .val (.int y1), .val (.int y2), .val (.int y3), .val (.int y4), .val (.int y5), .val (.int (2 : Int32)), .val (.int (1 : Int32)), .val (.ref a128), .val (.ref a129), .val (.ref b132), .unset] [])) (fun _ zk => XS.ifYes X133.here hx rfl (pc0 := 51) (pc' := 63) rfl (hb hby at_51) rfl ((if0 _ _).trans (feq ((by decide) : ¬ ((2 : Int32) = (0 : Int32)))).2) (by decide) (by decide) zk) ?_
      refine Go.st (T' := T133) (g' := (mkF m 64 #[.val (.int y0), .val (.int y1), .val (.int y2), .val (.int y3), .val (.int y4), .val (.int y5), .val (.int (2 : Int32)), .val (.int (1 : Int32)), .val (.ref a128), .val (.ref a129), .val (.ref b132), .unset] [(.int (0 : Int32))])) (fun _ zk => XS.iconst X133.here hx rfl (hb hby at_63) zk) ?_
      refine Go.st (T' := T133) (g' := (mkF m 66 #[.val (.int y0), .val (.int y1), .val (.int y2), .val (.int y3), .val (.int y4), .val (.int y5), .val (.int (2 : Int32)), .val (.int (1 : Int32)), .val (.ref a128), .val (.ref a129), .val (.ref b132), .val (.int (0 : Int32))] [])) (fun _ zk => XS.istore X133.here hx rfl (hb hby at_64) rfl (l' := #[.val (.int y0), .val (.int y1), .val (.int y2), .val (.int y3), .val (.int y4), .val (.int y5), .val (.int (2 : Int32)), .val (.int (1 : Int32)), .val (.ref a128), .val (.ref a129), .val (.ref b132), .val (.int (0 : Int32))]) rfl zk) ?_
      refine Go.st (T' := T133) (g' := (mkF m 68 #[.val (.int y0), .val (.int y1), .val (.int y2), .val (.int y3), .val (.int y4), .val (.int y5), .val (.int (2 : Int32)), .val (.int (1 : Int32)), .val (.ref a128), .val (.ref a129), .val (.ref b132), .val (.int (0 : Int32))] [(.ref b132)])) (fun _ zk => XS.aload X133.here hx rfl (hb hby at_66) rfl rfl zk) ?_
      have x134 : Ext h128 h133 := ((E129.tr E132).thenK K133 (allS (P := fun x => h128.size ≤ x) (Nat.le_trans E129.1 (Nat.le_of_eq g132.symm)) all0))
      have f135 := A128.ext x134
      have f136 := F128.ext x134
      have f137 := V128.ext x134
      have x138 : Ext h129 h133 := (E132.thenK K133 (allS (P := fun x => h129.size ≤ x) (Nat.le_of_eq g132.symm) all0))
      have f139 := A129.ext x138
      have f140 := F129.ext x138
      have f141 := V129.ext x138
      have f143 := (A132.keep K133)
      refine Go.callV (y := (⟨"com/example/attestry/attestry/bundle/MessageType", "isEmpty", "()Z"⟩ : MethodName)) (z := (⟨"com/example/attestry/attestry/bundle/MessageType", "isEmpty", "()Z"⟩ : MethodName)) (C := "com/example/attestry/attestry/bundle/MessageType") (a := b132) X133 hx hZ hown e133 (w43 hw) (w44 hw) (w46 hw) (w45 hw) (w29 hw) (w47 hw) (notFace_of_selects (args := #[]) (mvT hZ (w46 hw))) (by decide) f143 (argsL := []) (rest := []) (W := 0) (rm_isEmpty_21 l Z a0 hw [] b132 a128 t128 k128 b128_0 b128_1 a129 t129 k129 b129_0 h133 n0 (Nat.le_trans Z0 (Nat.le_trans (Nat.le_trans (Nat.le_trans E128.1 E129.1) E132.1) K133.1)) f135 f136 f137 f139 f140 f141 G133_0 G133_1) rfl (lenOf pd4 rfl) rfl (by rw [hml]; rfl) rfl (by show 2 * 0 + _ ≤ _; exact Nat.le_of_eq rfl) (by decide) (by decide) (by decide) (by decide) (hb hby at_68) ?_
      intro v142 T142 h142 L142 X142 e142 q142
      obtain ⟨hv142, Nf142, hh142⟩ := q142
      subst hv142
      have E142 : T142.heap = h133 := e142.trans hh142
      have N142 := Fr.app N133 Nf142
      show Go p.tables e below _ T142 (mkF m 71 #[.val (.int y0), .val (.int y1), .val (.int y2), .val (.int y3), .val (.int y4), .val (.int y5), .val (.int (2 : Int32)), .val (.int (1 : Int32)), .val (.ref a128), .val (.ref a129), .val (.ref b132), .val (.int (0 : Int32))] [(.int (0 : Int32))])
      refine Go.st (T' := T142) (g' := (mkF m 73 #[.val (.int y0), .val (.int y1), .val (.int y2), .val (.int y3), .val (.int y4), .val (.int y5), .val (.int (2 : Int32)), .val (.int (1 : Int32)), .val (.ref a128), .val (.ref a129), .val (.ref b132), .val (.int (0 : Int32))] [(.int (0 : Int32)), (.int (0 : Int32))])) (fun _ zk => XS.iload X142.here hx rfl (hb hby at_71) rfl zk) ?_
      refine Go.st (T' := T142) (g' := (mkF m 76 #[.val (.int y0), .val (.int y1), .val (.int y2), .val (.int y3), .val (.int y4), .val (.int y5), .val (.int (2 : Int32)), .val (.int (1 : Int32)), .val (.ref a128), .val (.ref a129), .val (.ref b132), .val (.int (0 : Int32))] [])) (fun _ zk => XS.icmpNo X142.here hx rfl (hb hby at_73) rfl (teq (rfl : (0 : Int32) = (0 : Int32))).2 zk) ?_
      refine Go.st (T' := T142) (g' := (mkF m 77 #[.val (.int y0), .val (.int y1), .val (.int y2), .val (.int y3), .val (.int y4), .val (.int y5), .val (.int (2 : Int32)), .val (.int (1 : Int32)), .val (.ref a128), .val (.ref a129), .val (.ref b132), .val (.int (0 : Int32))] [(.int (1 : Int32))])) (fun _ zk => XS.iconst X142.here hx rfl (hb hby at_76) zk) ?_
      refine Go.st (T' := T142) (g' := (mkF m 81 #[.val (.int y0), .val (.int y1), .val (.int y2), .val (.int y3), .val (.int y4), .val (.int y5), .val (.int (2 : Int32)), .val (.int (1 : Int32)), .val (.ref a128), .val (.ref a129), .val (.ref b132), .val (.int (0 : Int32))] [(.int (1 : Int32))])) (fun _ zk => XS.goto X142.here hx rfl (pc0 := 77) (pc' := 81) rfl (hb hby at_77) (by decide) (by decide) zk) ?_
      have cr144 := (chrK (chrE (chrE (chrE hA E128) E129) E132) K133 (sfS (Safe.exa hZ.alike A132 (by decide) (by decide)) sf0))
      refine Go.retNS X142 hx hlk hS (Nat.le_trans (Nat.zero_le _) (Nat.le_trans (Nat.le_trans (Nat.le_trans E128.1 E129.1) E132.1) K133.1)) cr144 hZ hEL hret rfl (by simp) (hb hby at_81) (by decide) (by decide) E142 ?_
      exact ⟨rfl, N142⟩
    · refine Go.st (T' := s₁) (g' := (mkF m 16 #[.val (.int y0), .val (.int y1), .val (.int y2), .val (.int y3), .val (.int y4), .val (.int y5), .val (.int (2 : Int32)), .val (.int (2 : Int32)), .unset, .unset, .unset, .unset] [])) (fun _ zk => XS.istore X0.here hx rfl (hb hby at_14) rfl (l' := #[.val (.int y0), .val (.int y1), .val (.int y2), .val (.int y3), .val (.int y4), .val (.int y5), .val (.int (2 : Int32)), .val (.int (2 : Int32)), .unset, .unset, .unset, .unset]) rfl zk) ?_
      refine Go.st (T' := s₁) (g' := (mkF m 18 #[.val (.int y0), .val (.int y1), .val (.int y2), .val (.int y3), .val (.int y4), .val (.int y5), .val (.int (2 : Int32)), .val (.int (2 : Int32)), .unset, .unset, .unset, .unset] [(.int (2 : Int32))])) (fun _ zk => XS.iload X0.here hx rfl (hb hby at_16) rfl zk) ?_
      refine Go.st (T' := s₁) (g' := (mkF m 19 #[.val (.int y0), .val (.int y1), .val (.int y2), .val (.int y3), .val (.int y4), .val (.int y5), .val (.int (2 : Int32)), .val (.int (2 : Int32)), .unset, .unset, .unset, .unset] [(.int y2), (.int (2 : Int32))])) (fun _ zk => XS.iloadN X0.here hx rfl (hb hby at_18) rfl zk) ?_
      refine Go.st (T' := s₁) (g' := (mkF m 20 #[.val (.int y0), .val (.int y1), .val (.int y2), .val (.int y3), .val (.int y4), .val (.int y5), .val (.int (2 : Int32)), .val (.int (2 : Int32)), .unset, .unset, .unset, .unset] [(.int y3), (.int y2), (.int (2 : Int32))])) (fun _ zk => XS.iloadN X0.here hx rfl (hb hby at_19) rfl zk) ?_
      refine Go.callSt (y := (⟨"com/example/attestry/attestry/bundle/MessageTypeIsEmptyPinLaw", "draw", "(III)Ljava/lang/String;"⟩ : MethodName)) X0 hx hZ hown e0 (w1 hw) (w2 hw) (w3 hw) (w4 hw) (by decide) (argsL := [(.int (2 : Int32)), (.int y2), (.int y3)]) (rest := []) (W := 0) (rm_draw_2 l Z a0 hw [] y2 y3 zc h0 n0 Z0 O0 CS hz) rfl (lenOf pd12 rfl) rfl (by rw [hml]; rfl) rfl (by show 2 * 0 + _ ≤ _; exact Nat.le_of_eq rfl) (by decide) (by decide) (by decide) (by decide) (hb hby at_20) ?_
      intro v145 T145 h145 L145 X145 e145 q145
      obtain ⟨a145, t145, k145, b145_0, b145_1, hv145, Nf145, E145, A145, F145, V145⟩ := q145
      subst hv145
      have N145 := Fr.app N0 Nf145
      show Go p.tables e below _ T145 (mkF m 23 #[.val (.int y0), .val (.int y1), .val (.int y2), .val (.int y3), .val (.int y4), .val (.int y5), .val (.int (2 : Int32)), .val (.int (2 : Int32)), .unset, .unset, .unset, .unset] [(.ref a145)])
      refine Go.st (T' := T145) (g' := (mkF m 25 #[.val (.int y0), .val (.int y1), .val (.int y2), .val (.int y3), .val (.int y4), .val (.int y5), .val (.int (2 : Int32)), .val (.int (2 : Int32)), .val (.ref a145), .unset, .unset, .unset] [])) (fun _ zk => XS.astore X145.here hx rfl (hb hby at_23) rfl rfl (l' := #[.val (.int y0), .val (.int y1), .val (.int y2), .val (.int y3), .val (.int y4), .val (.int y5), .val (.int (2 : Int32)), .val (.int (2 : Int32)), .val (.ref a145), .unset, .unset, .unset]) rfl zk) ?_
      refine Go.st (T' := T145) (g' := (mkF m 27 #[.val (.int y0), .val (.int y1), .val (.int y2), .val (.int y3), .val (.int y4), .val (.int y5), .val (.int (2 : Int32)), .val (.int (2 : Int32)), .val (.ref a145), .unset, .unset, .unset] [(.int (2 : Int32))])) (fun _ zk => XS.iload X145.here hx rfl (hb hby at_25) rfl zk) ?_
      refine Go.st (T' := T145) (g' := (mkF m 29 #[.val (.int y0), .val (.int y1), .val (.int y2), .val (.int y3), .val (.int y4), .val (.int y5), .val (.int (2 : Int32)), .val (.int (2 : Int32)), .val (.ref a145), .unset, .unset, .unset] [(.int y4), (.int (2 : Int32))])) (fun _ zk => XS.iload X145.here hx rfl (hb hby at_27) rfl zk) ?_
      refine Go.st (T' := T145) (g' := (mkF m 31 #[.val (.int y0), .val (.int y1), .val (.int y2), .val (.int y3), .val (.int y4), .val (.int y5), .val (.int (2 : Int32)), .val (.int (2 : Int32)), .val (.ref a145), .unset, .unset, .unset] [(.int y5), (.int y4), (.int (2 : Int32))])) (fun _ zk => XS.iload X145.here hx rfl (hb hby at_29) rfl zk) ?_
      have x147 : Ext h0 h145 := E145
      have f148 := O0.ext x147
      refine Go.callSt (y := (⟨"com/example/attestry/attestry/bundle/MessageTypeIsEmptyPinLaw", "draw", "(III)Ljava/lang/String;"⟩ : MethodName)) X145 hx hZ hown e145 (w1 hw) (w2 hw) (w3 hw) (w4 hw) (by decide) (argsL := [(.int (2 : Int32)), (.int y4), (.int y5)]) (rest := []) (W := 0) (rm_draw_2 l Z a0 hw [] y4 y5 zc h145 n0 (Nat.le_trans Z0 E145.1) f148 CS hz) rfl (lenOf pd12 rfl) rfl (by rw [hml]; rfl) rfl (by show 2 * 0 + _ ≤ _; exact Nat.le_of_eq rfl) (by decide) (by decide) (by decide) (by decide) (hb hby at_31) ?_
      intro v146 T146 h146 L146 X146 e146 q146
      obtain ⟨a146, t146, k146, b146_0, b146_1, hv146, Nf146, E146, A146, F146, V146⟩ := q146
      subst hv146
      have N146 := Fr.app N145 Nf146
      show Go p.tables e below _ T146 (mkF m 34 #[.val (.int y0), .val (.int y1), .val (.int y2), .val (.int y3), .val (.int y4), .val (.int y5), .val (.int (2 : Int32)), .val (.int (2 : Int32)), .val (.ref a145), .unset, .unset, .unset] [(.ref a146)])
      refine Go.st (T' := T146) (g' := (mkF m 36 #[.val (.int y0), .val (.int y1), .val (.int y2), .val (.int y3), .val (.int y4), .val (.int y5), .val (.int (2 : Int32)), .val (.int (2 : Int32)), .val (.ref a145), .val (.ref a146), .unset, .unset] [])) (fun _ zk => XS.astore X146.here hx rfl (hb hby at_34) rfl rfl (l' := #[.val (.int y0), .val (.int y1), .val (.int y2), .val (.int y3), .val (.int y4), .val (.int y5), .val (.int (2 : Int32)), .val (.int (2 : Int32)), .val (.ref a145), .val (.ref a146), .unset, .unset]) rfl zk) ?_
      obtain ⟨T149, h149, X149, e149, E149, A149, D149, -, st149⟩ := newO X146 hx hZ hown (w27 hw) (w28 hw) (w29 hw) e146 (g := (mkF m 36 #[.val (.int y0), .val (.int y1), .val (.int y2), .val (.int y3), .val (.int y4), .val (.int y5), .val (.int (2 : Int32)), .val (.int (2 : Int32)), .val (.ref a145), .val (.ref a146), .unset, .unset] [])) rfl (hb hby at_36) (by decide) (by decide)
      obtain ⟨b149, g149⟩ : ∃ z, z = h146.size := ⟨_, rfl⟩
      rw [← g149] at A149 D149 st149
      have F149_code : Fld Z h149 b149 "com/example/attestry/attestry/bundle/MessageType" "code" "Ljava/lang/String;" .null := D149 (Or.inr (w40 hw)) (ty := (.object "java/lang/String")) (by decide)
      have F149_triggerEvent : Fld Z h149 b149 "com/example/attestry/attestry/bundle/MessageType" "triggerEvent" "Ljava/lang/String;" .null := D149 (Or.inr (w42 hw)) (ty := (.object "java/lang/String")) (by decide)
      refine Go.st (T' := T149) (g' := (mkF m 39 #[.val (.int y0), .val (.int y1), .val (.int y2), .val (.int y3), .val (.int y4), .val (.int y5), .val (.int (2 : Int32)), .val (.int (2 : Int32)), .val (.ref a145), .val (.ref a146), .unset, .unset] [(.ref b149)])) (fun _ zk => st149 _ zk) ?_
      refine Go.st (T' := T149) (g' := (mkF m 40 #[.val (.int y0), .val (.int y1), .val (.int y2), .val (.int y3), .val (.int y4), .val (.int y5), .val (.int (2 : Int32)), .val (.int (2 : Int32)), .val (.ref a145), .val (.ref a146), .unset, .unset] [(.ref b149), (.ref b149)])) (fun _ zk => XS.dup X149.here hx rfl (hb hby at_39) rfl rfl zk) ?_
      refine Go.st (T' := T149) (g' := (mkF m 42 #[.val (.int y0), .val (.int y1), .val (.int y2), .val (.int y3), .val (.int y4), .val (.int y5), .val (.int (2 : Int32)), .val (.int (2 : Int32)), .val (.ref a145), .val (.ref a146), .unset, .unset] [(.ref a145), (.ref b149), (.ref b149)])) (fun _ zk => XS.aload X149.here hx rfl (hb hby at_40) rfl rfl zk) ?_
      refine Go.st (T' := T149) (g' := (mkF m 44 #[.val (.int y0), .val (.int y1), .val (.int y2), .val (.int y3), .val (.int y4), .val (.int y5), .val (.int (2 : Int32)), .val (.int (2 : Int32)), .val (.ref a145), .val (.ref a146), .unset, .unset] [(.ref a146), (.ref a145), (.ref b149), (.ref b149)])) (fun _ zk => XS.aload X149.here hx rfl (hb hby at_42) rfl rfl zk) ?_
      refine Go.callSp (y := (⟨"com/example/attestry/attestry/bundle/MessageType", "<init>", "(Ljava/lang/String;Ljava/lang/String;)V"⟩ : MethodName)) (a := b149) X149 hx hZ hown e149 rfl (w30 hw) (w31 hw) (w29 hw) (w32 hw) (by decide) (argsL := [(.ref a145), (.ref a146)]) (rest := [(.ref b149)]) (W := 1) (rm_mtInit l Z a0 hw [] b149 a145 a146 h149 n0 (Nat.le_trans Z0 (Nat.le_trans (Nat.le_trans E145.1 E146.1) E149.1)) A149 (Nat.le_trans Z0 (Nat.le_trans (Nat.le_trans E145.1 E146.1) (Nat.le_of_eq g149.symm))) F149_code F149_triggerEvent) rfl (lenOf pd13 rfl) rfl (by rw [hml]; rfl) rfl (by show 2 * 0 + _ ≤ _; exact Nat.le_of_eq rfl) (by decide) (by decide) (by decide) (by decide) (hb hby at_44) ?_
      intro v150 T150 h150 L150 X150 e150 q150
      obtain ⟨hv150, Nf150, K150, G150_0, G150_1⟩ := q150
      subst hv150
      have N150 := Fr.app N146 Nf150
      show Go p.tables e below _ T150 (mkF m 47 #[.val (.int y0), .val (.int y1), .val (.int y2), .val (.int y3), .val (.int y4), .val (.int y5), .val (.int (2 : Int32)), .val (.int (2 : Int32)), .val (.ref a145), .val (.ref a146), .unset, .unset] [(.ref b149)])
      refine Go.st (T' := T150) (g' := (mkF m 49 #[.val (.int y0), .val (.int y1), .val (.int y2), .val (.int y3), .val (.int y4), .val (.int y5), .val (.int (2 : Int32)), .val (.int (2 : Int32)), .val (.ref a145), .val (.ref a146), .val (.ref b149), .unset] [])) (fun _ zk => XS.astore X150.here hx rfl (hb hby at_47) rfl rfl (l' := #[.val (.int y0), .val (.int y1), .val (.int y2), .val (.int y3), .val (.int y4), .val (.int y5), .val (.int (2 : Int32)), .val (.int (2 : Int32)), .val (.ref a145), .val (.ref a146), .val (.ref b149), .unset]) rfl zk) ?_
      refine Go.st (T' := T150) (g' := (mkF m 51 #[.val (.int y0), .val (.int y1), .val (.int y2), .val (.int y3), .val (.int y4), .val (.int y5), .val (.int (2 : Int32)), .val (.int (2 : Int32)), .val (.ref a145), .val (.ref a146), .val (.ref b149), .unset] [(.int (2 : Int32))])) (fun _ zk => XS.iload X150.here hx rfl (hb hby at_49) rfl zk) ?_
      refine Go.st (T' := T150) (g' := (mkF m 63 #[.val (.int y0), .val (.int y1), .val (.int y2), .val (.int y3), .val (.int y4), .val (.int y5), .val (.int (2 : Int32)), .val (.int (2 : Int32)), .val (.ref a145), .val (.ref a146), .val (.ref b149), .unset] [])) (fun _ zk => XS.ifYes X150.here hx rfl (pc0 := 51) (pc' := 63) rfl (hb hby at_51) rfl ((if0 _ _).trans (feq ((by decide) : ¬ ((2 : Int32) = (0 : Int32)))).2) (by decide) (by decide) zk) ?_
      refine Go.st (T' := T150) (g' := (mkF m 64 #[.val (.int y0), .val (.int y1), .val (.int y2), .val (.int y3), .val (.int y4), .val (.int y5), .val (.int (2 : Int32)), .val (.int (2 : Int32)), .val (.ref a145), .val (.ref a146), .val (.ref b149), .unset] [(.int (0 : Int32))])) (fun _ zk => XS.iconst X150.here hx rfl (hb hby at_63) zk) ?_
      refine Go.st (T' := T150) (g' := (mkF m 66 #[.val (.int y0), .val (.int y1), .val (.int y2), .val (.int y3), .val (.int y4), .val (.int y5), .val (.int (2 : Int32)), .val (.int (2 : Int32)), .val (.ref a145), .val (.ref a146), .val (.ref b149), .val (.int (0 : Int32))] [])) (fun _ zk => XS.istore X150.here hx rfl (hb hby at_64) rfl (l' := #[.val (.int y0), .val (.int y1), .val (.int y2), .val (.int y3), .val (.int y4), .val (.int y5), .val (.int (2 : Int32)), .val (.int (2 : Int32)), .val (.ref a145), .val (.ref a146), .val (.ref b149), .val (.int (0 : Int32))]) rfl zk) ?_
      refine Go.st (T' := T150) (g' := (mkF m 68 #[.val (.int y0), .val (.int y1), .val (.int y2), .val (.int y3), .val (.int y4), .val (.int y5), .val (.int (2 : Int32)), .val (.int (2 : Int32)), .val (.ref a145), .val (.ref a146), .val (.ref b149), .val (.int (0 : Int32))] [(.ref b149)])) (fun _ zk => XS.aload X150.here hx rfl (hb hby at_66) rfl rfl zk) ?_
      have x151 : Ext h145 h150 := ((E146.tr E149).thenK K150 (allS (P := fun x => h145.size ≤ x) (Nat.le_trans E146.1 (Nat.le_of_eq g149.symm)) all0))
      have f152 := A145.ext x151
      have f153 := F145.ext x151
      have f154 := V145.ext x151
      have x155 : Ext h146 h150 := (E149.thenK K150 (allS (P := fun x => h146.size ≤ x) (Nat.le_of_eq g149.symm) all0))
      have f156 := A146.ext x155
      have f157 := F146.ext x155
      have f158 := V146.ext x155
      have f160 := (A149.keep K150)
      refine Go.callV (y := (⟨"com/example/attestry/attestry/bundle/MessageType", "isEmpty", "()Z"⟩ : MethodName)) (z := (⟨"com/example/attestry/attestry/bundle/MessageType", "isEmpty", "()Z"⟩ : MethodName)) (C := "com/example/attestry/attestry/bundle/MessageType") (a := b149) X150 hx hZ hown e150 (w43 hw) (w44 hw) (w46 hw) (w45 hw) (w29 hw) (w47 hw) (notFace_of_selects (args := #[]) (mvT hZ (w46 hw))) (by decide) f160 (argsL := []) (rest := []) (W := 0) (rm_isEmpty_22 l Z a0 hw [] b149 a145 t145 k145 b145_0 b145_1 a146 t146 k146 b146_0 b146_1 h150 n0 (Nat.le_trans Z0 (Nat.le_trans (Nat.le_trans (Nat.le_trans E145.1 E146.1) E149.1) K150.1)) f152 f153 f154 f156 f157 f158 G150_0 G150_1) rfl (lenOf pd4 rfl) rfl (by rw [hml]; rfl) rfl (by show 2 * 0 + _ ≤ _; exact Nat.le_of_eq rfl) (by decide) (by decide) (by decide) (by decide) (hb hby at_68) ?_
      intro v159 T159 h159 L159 X159 e159 q159
      obtain ⟨hv159, Nf159, hh159⟩ := q159
      subst hv159
      have E159 : T159.heap = h150 := e159.trans hh159
      have N159 := Fr.app N150 Nf159
      show Go p.tables e below _ T159 (mkF m 71 #[.val (.int y0), .val (.int y1), .val (.int y2), .val (.int y3), .val (.int y4), .val (.int y5), .val (.int (2 : Int32)), .val (.int (2 : Int32)), .val (.ref a145), .val (.ref a146), .val (.ref b149), .val (.int (0 : Int32))] [(.int (0 : Int32))])
      refine Go.st (T' := T159) (g' := (mkF m 73 #[.val (.int y0), .val (.int y1), .val (.int y2), .val (.int y3), .val (.int y4), .val (.int y5), .val (.int (2 : Int32)), .val (.int (2 : Int32)), .val (.ref a145), .val (.ref a146), .val (.ref b149), .val (.int (0 : Int32))] [(.int (0 : Int32)), (.int (0 : Int32))])) (fun _ zk => XS.iload X159.here hx rfl (hb hby at_71) rfl zk) ?_
      refine Go.st (T' := T159) (g' := (mkF m 76 #[.val (.int y0), .val (.int y1), .val (.int y2), .val (.int y3), .val (.int y4), .val (.int y5), .val (.int (2 : Int32)), .val (.int (2 : Int32)), .val (.ref a145), .val (.ref a146), .val (.ref b149), .val (.int (0 : Int32))] [])) (fun _ zk => XS.icmpNo X159.here hx rfl (hb hby at_73) rfl (teq (rfl : (0 : Int32) = (0 : Int32))).2 zk) ?_
      refine Go.st (T' := T159) (g' := (mkF m 77 #[.val (.int y0), .val (.int y1), .val (.int y2), .val (.int y3), .val (.int y4), .val (.int y5), .val (.int (2 : Int32)), .val (.int (2 : Int32)), .val (.ref a145), .val (.ref a146), .val (.ref b149), .val (.int (0 : Int32))] [(.int (1 : Int32))])) (fun _ zk => XS.iconst X159.here hx rfl (hb hby at_76) zk) ?_
      refine Go.st (T' := T159) (g' := (mkF m 81 #[.val (.int y0), .val (.int y1), .val (.int y2), .val (.int y3), .val (.int y4), .val (.int y5), .val (.int (2 : Int32)), .val (.int (2 : Int32)), .val (.ref a145), .val (.ref a146), .val (.ref b149), .val (.int (0 : Int32))] [(.int (1 : Int32))])) (fun _ zk => XS.goto X159.here hx rfl (pc0 := 77) (pc' := 81) rfl (hb hby at_77) (by decide) (by decide) zk) ?_
      have cr161 := (chrK (chrE (chrE (chrE hA E145) E146) E149) K150 (sfS (Safe.exa hZ.alike A149 (by decide) (by decide)) sf0))
      refine Go.retNS X159 hx hlk hS (Nat.le_trans (Nat.zero_le _) (Nat.le_trans (Nat.le_trans (Nat.le_trans E145.1 E146.1) E149.1) K150.1)) cr161 hZ hEL hret rfl (by simp) (hb hby at_81) (by decide) (by decide) E159 ?_
      exact ⟨rfl, N159⟩
set_option maxRecDepth 65536 in
set_option maxHeartbeats 40000000 in
theorem comes_1 {Post : Tables → Env → Array Value → State → Outcome → State → Prop} (hpost : ∀ tb e args s v u, (limb_1_1.after args s (.returned v) u = true ∧ limb_1_2.after args s (.returned v) u = true ∧ True) → ReturnedEndW s (.returned v) u (Jvm.fieldLocs frame_1_writes args s ++ Jvm.arrayLocs frame_1_arrays args s ++ Jvm.staticLocs frame_1_statics s) 24 1152 → Post tb e args s (.returned v) u) :
    ArmFor flags0 classFile x code maxLocals ret World_1 tables_1 room_1 Calls_1 rest_1 Pre_1 Post := by
  intro l hfl _ _ p e ha hc hk s m args below hf hA hF happ hP
  obtain ⟨hcalls, hrest, hpre⟩ := hP
  obtain ⟨-, -, -, hnamed, -, -, -, hat⟩ := (Spec.applies_iff hf).mp happ
  obtain ⟨hg, hn⟩ := and_e (Cond.before_iff.mp (show (Jvm.Cond.and given_1 narrow_1).before args s = true from hpre))
  obtain ⟨g0a, g0b⟩ := and_e hg
  obtain ⟨g1a, g1b⟩ := and_e g0b
  obtain ⟨g2a, g2b⟩ := and_e g1b
  obtain ⟨g3a, g3b⟩ := and_e g2b
  obtain ⟨g4a, g4b⟩ := and_e g3b
  obtain ⟨g5a, g5b⟩ := and_e g4b
  obtain ⟨w0', w1', w2', w3', w4', w5', rfl⟩ : ∃ w0' w1' w2' w3' w4' w5' : Value, args = #[w0', w1', w2', w3', w4', w5'] := by
    have hs : args.size = 6 := by simpa [Cond.value, given_1] using g0a
    obtain ⟨L⟩ := args
    match L, hs with
    | [w0', w1', w2', w3', w4', w5'], _ => exact ⟨w0', w1', w2', w3', w4', w5', rfl⟩
  have hw := fun d (hd : d ∈ tables_1) => atoms_spec (ws := Jvm.Cond.code x code maxLocals ret :: tables_1) hat d (List.mem_cons_of_mem _ hd)
  have hfit : Fit s := fun {y c} hc i hi => by
    obtain ⟨ha, rfl⟩ := Array.getElem?_eq_some_iff.mp hc
    have q := List.all_eq_true.mp ((Array.all_eq_true_iff_forall_mem.mp hF) _ (Array.getElem_mem ha)) i (List.mem_range.mpr hi)
    simpa [Array.getElem?_eq_getElem hi] using q
  obtain ⟨i0, ei0⟩ := is_v g1a
  obtain rfl : w0' = (.int i0) := Option.some.inj ei0
  obtain ⟨i1, ei1⟩ := is_v g2a
  obtain rfl : w1' = (.int i1) := Option.some.inj ei1
  obtain ⟨i2, ei2⟩ := is_v g3a
  obtain rfl : w2' = (.int i2) := Option.some.inj ei2
  obtain ⟨i3, ei3⟩ := is_v g4a
  obtain rfl : w3' = (.int i3) := Option.some.inj ei3
  obtain ⟨i4, ei4⟩ := is_v g5a
  obtain rfl : w4' = (.int i4) := Option.some.inj ei4
  obtain ⟨i5, ei5⟩ := is_v g5b
  obtain rfl : w5' = (.int i5) := Option.some.inj ei5
  have hrest' : rest_1_c.before _ s = true := hrest
  have hR := Cond.before_iff.mp hrest'
  obtain ⟨r0a, r0b⟩ := and_e hR
  obtain ⟨r1a, r1b⟩ := and_e r0b
  obtain ⟨r2a, r2b⟩ := and_e r1b
  obtain ⟨r3a, r3b⟩ := and_e r2b
  obtain ⟨r4a, r4b⟩ := and_e r3b
  obtain ⟨r5a, r5b⟩ := and_e r4b
  obtain ⟨r6a, r6b⟩ := and_e r5b
  obtain ⟨r7a, r7b⟩ := and_e r6b
  obtain ⟨r8a, r8b⟩ := and_e r7b
  obtain ⟨zc, ezc⟩ := is_v r1a
  have CS : Sta s s.heap "java/lang/String" "COMPACT_STRINGS" "Z" (.int zc) := Sta.start ezc (Or.inl (Cond.before_iff.mpr r0a))
  have hz : ¬ zc = 0 := fun q => by
    have q1 := not_v r2a
    rw [eq_i ezc (Term.int_eval (0)) (by rw [q])] at q1
    cases q1
  obtain ⟨fm, efm, rf⟩ := isR_v r8a
  have FM : Sta s s.heap "jdk/internal/util/Preconditions" "SIOOBE_FORMATTER" "Ljava/util/function/BiFunction;" fm := Sta.start efm (Or.inl (Cond.before_iff.mpr r7a))
  have hcw : Jvm.Lit.compactW.before _ s = true := Cond.before_iff.mpr r2a
  have HCH : CHv s EL0 s.vm s.heap := CHv.start (hEL0 hw) (fun p hp => hcalls.1 p hp) hcw (w20 hw) (w6 hw)
  obtain ⟨n, o, h1, h2, h3, _, L, rfl, ⟨rfl, N⟩, -, hq⟩ := rm_law l s _ hw tables_1 i0 i1 i2 i3 i4 i5 zc s.heap s.heap.size (Nat.le_refl _) (Old.start s) CS hz p e ha hc hk s m _ below hf ((Spec.applies_iff_loose hf).mp happ).1 ⟨rfl, State.Warmed39.refl s, rfl, HCH, fun _ q => nomatch q⟩ trivial
  exact ⟨n, _, h1, h2, h3, hpost _ _ _ _ _ _ ⟨Cond.after_iff.mpr rfl, Cond.after_iff.mpr (eq_i res_at (Term.int_eval (1)) rfl), trivial⟩ ⟨hq.1, hq.2.1, hq.2.2.1, (hq.2.2.2.sift fun y hy => Or.inr (N y hy)).mono (by decide) (by decide)⟩⟩
theorem main_1_1 : Claimed_1_1 := comes_1 fun _ _ _ _ _ _ h hF => ⟨h.1, hF⟩
theorem main_1_2 : Claimed_1_2 := comes_1 fun _ _ _ _ _ _ h hF => ⟨h.2.1, hF⟩
end Jvm.Pilot.@@N@@
namespace Jvm.Pilot.@@N@@
open Jvm Jvm.ClassFile Sem Op Lib Jvm.Free Jvm.Stand Jvm.Pilot.@@N@@.Jvm.D
/-! MADE BY PROGRAM (witnessworld.py) out of the Statement's table words and the real class files: 21 classes; the members and pool entries that the words name. The judged class is class 1, her method 2. -/
namespace start1
open Jvm.ClassFile
def u (s : String) : CpInfo := .utf8 (stringToUtf16 s)
/-- a pool by its gaps: so many unusable entries, then the entry; so many at the end -/
def gap : Nat → List CpInfo → List CpInfo
  | 0, r => r
  | n + 1, r => .unusable :: gap n r
def poolList (es : List (Nat × CpInfo)) (last : Nat) : List CpInfo := es.foldr (fun e r => gap e.1 (e.2 :: r)) (gap last [])
def pool (es : List (Nat × CpInfo)) (last : Nat) : Array CpInfo := ⟨poolList es last⟩
def fileOf (pool : Array CpInfo) (this : Nat) (attrs : Array Attribute := #[]) (ms : Array MethodInfo := #[]) (fl : Nat := 33) (sup : Nat := 0) (ifs : Array Nat := #[]) (fds : Array FieldInfo := #[]) : ClassFile where
  minorVersion := 0
  majorVersion := 65
  constantPool := pool
  accessFlags := fl
  thisClass := this
  superClass := sup
  interfaces := ifs
  fields := fds
  methods := ms
  attributes := attrs
def plain (name : String) (sup : Option ClassId) : Class where
  name := name
  kind := .ordinary
  loader := none
  accessFlags := 33
  super := sup
  interfaces := #[]
  cf := none
  fields := #[]
  methods := #[]
  instanceTypes := #[]
  staticTypes := #[]
  resolved := #[]
  callSites := []
  init := .initialized
  statics := none
  mirror := none

def pool0 : Array CpInfo := pool [(5, u "<init>"), (0, u "()V"), (1, .class_ 10), (1, u "java/lang/Object")] 113

def k0c0 : Code := { maxStack := 0, maxLocals := 1, code := object_method_1_code, exceptionTable := #[], attributes := #[] }
def k0m0 : Method := { name := "<init>", desc := "()V", sig := { parameters := [], returnType := none }, accessFlags := 1, code := some k0c0 }
/-- java/lang/Object -/
def k0 : Class := { plain "java/lang/Object" none with
  accessFlags := 33
  interfaces := #[]
  cf := some (fileOf pool0 8 #[] #[{ accessFlags := 1, nameIndex := 5, descriptorIndex := 6, attributes := #[] }] 33 0 #[] #[])
  fields := #[]
  methods := #[k0m0]
  instanceTypes := #[]
  staticTypes := #[]
  resolved := Array.replicate 124 none
  statics := none }

def pool1 : Array CpInfo := pool [(2, .class_ 4), (1, u "java/lang/Object"), (0, u "<init>"), (0, u "()V"), (0, .class_ 8), (0, u "java/lang/String"), (0, .methodref 7 10), (0, .nameAndType 5 11), (0, u "([C)V"), (0, .integer 2147483647), (0, .methodref 14 15), (0, .class_ 16), (0, .nameAndType 17 18), (0, u "com/example/attestry/attestry/bundle/MessageTypeIsEmptyPinLaw"), (0, u "draw"), (0, u "(III)Ljava/lang/String;"), (0, .class_ 20), (0, u "com/example/attestry/attestry/bundle/MessageType"), (0, .methodref 19 22), (0, .nameAndType 5 23), (0, u "(Ljava/lang/String;Ljava/lang/String;)V"), (0, .methodref 19 25), (0, .nameAndType 26 27), (0, u "isEmpty"), (0, u "()Z"), (3, u "law"), (0, u "(IIIIII)Z")] 2

def k1m0 : Method := { name := "<init>", desc := "()V", sig := { parameters := [], returnType := none }, accessFlags := 2, code := none }
def k1c1 : Code := { maxStack := 4, maxLocals := 4, code := method_2_code, exceptionTable := #[], attributes := #[] }
def k1m1 : Method := { name := "draw", desc := "(III)Ljava/lang/String;", sig := { parameters := [.int, .int, .int], returnType := some (.object "java/lang/String") }, accessFlags := 10, code := some k1c1 }
def k1c2 : Code := { maxStack := 4, maxLocals := 12, code := code, exceptionTable := #[], attributes := #[] }
def k1m2 : Method := { name := "law", desc := "(IIIIII)Z", sig := { parameters := [.int, .int, .int, .int, .int, .int], returnType := some .boolean }, accessFlags := 9, code := some k1c2 }
/-- com/example/attestry/attestry/bundle/MessageTypeIsEmptyPinLaw -/
def k1 : Class := { plain "com/example/attestry/attestry/bundle/MessageTypeIsEmptyPinLaw" (some 0) with
  accessFlags := 49
  interfaces := #[]
  cf := some (fileOf pool1 14 #[] #[{ accessFlags := 2, nameIndex := 5, descriptorIndex := 6, attributes := #[] }, { accessFlags := 10, nameIndex := 17, descriptorIndex := 18, attributes := #[] }, { accessFlags := 9, nameIndex := 31, descriptorIndex := 32, attributes := #[] }] 49 2 #[] #[])
  fields := #[]
  methods := #[k1m0, k1m1, k1m2]
  instanceTypes := #[]
  staticTypes := #[]
  resolved := Array.replicate 35 none
  statics := none }

def pool2 : Array CpInfo := pool [(1, .class_ 2), (0, u "java/io/Serializable"), (0, .class_ 4), (0, u "java/lang/Object")] 2

/-- java/io/Serializable -/
def k2 : Class := { plain "java/io/Serializable" (some 0) with
  accessFlags := 1537
  interfaces := #[]
  cf := some (fileOf pool2 1 #[] #[] 1537 3 #[] #[])
  fields := #[]
  methods := #[]
  instanceTypes := #[]
  staticTypes := #[]
  resolved := Array.replicate 7 none
  statics := none }

def pool3 : Array CpInfo := pool [(1, .class_ 2), (0, u "java/lang/Comparable"), (0, .class_ 4), (0, u "java/lang/Object")] 7

/-- java/lang/Comparable -/
def k3 : Class := { plain "java/lang/Comparable" (some 0) with
  accessFlags := 1537
  interfaces := #[]
  cf := some (fileOf pool3 1 #[] #[] 1537 3 #[] #[])
  fields := #[]
  methods := #[]
  instanceTypes := #[]
  staticTypes := #[]
  resolved := Array.replicate 12 none
  statics := none }

def pool4 : Array CpInfo := pool [(2, .class_ 4), (1, u "java/lang/CharSequence"), (42, .class_ 48), (0, u "java/lang/CharSequence$1CodePointIterator"), (10, .class_ 60), (0, u "java/lang/CharSequence$1CharIterator"), (5, .class_ 67), (0, u "java/lang/Object")] 63

/-- java/lang/CharSequence -/
def k4 : Class := { plain "java/lang/CharSequence" (some 0) with
  accessFlags := 1537
  interfaces := #[]
  cf := some (fileOf pool4 2 #[.nestMembers #[47, 59]] #[] 1537 66 #[] #[])
  fields := #[]
  methods := #[]
  instanceTypes := #[]
  staticTypes := #[]
  resolved := Array.replicate 131 none
  statics := none }

def pool5 : Array CpInfo := pool [(1, .class_ 2), (0, u "java/lang/constant/Constable"), (0, .class_ 4), (0, u "java/lang/Object")] 6

/-- java/lang/constant/Constable -/
def k5 : Class := { plain "java/lang/constant/Constable" (some 0) with
  accessFlags := 1537
  interfaces := #[]
  cf := some (fileOf pool5 1 #[] #[] 1537 3 #[] #[])
  fields := #[]
  methods := #[]
  instanceTypes := #[]
  staticTypes := #[]
  resolved := Array.replicate 11 none
  statics := none }

def pool6 : Array CpInfo := pool [(1, .class_ 2), (0, u "java/lang/constant/ConstantDesc"), (0, .class_ 4), (0, u "java/lang/Object")] 32

/-- java/lang/constant/ConstantDesc -/
def k6 : Class := { plain "java/lang/constant/ConstantDesc" (some 0) with
  accessFlags := 1537
  interfaces := #[]
  cf := some (fileOf pool6 1 #[] #[] 1537 3 #[] #[])
  fields := #[]
  methods := #[]
  instanceTypes := #[]
  staticTypes := #[]
  resolved := Array.replicate 37 none
  statics := none }

def pool7 : Array CpInfo := pool [(1, .methodref 2 3), (0, .class_ 4), (0, .nameAndType 5 6), (0, u "java/lang/Object"), (0, u "<init>"), (0, u "()V"), (0, .string 8), (0, u ""), (0, .fieldref 10 11), (0, .class_ 12), (0, .nameAndType 13 14), (0, u "java/lang/String"), (0, u "value"), (0, u "[B"), (0, .fieldref 10 16), (0, .nameAndType 17 18), (0, u "coder"), (0, u "B"), (2, u "hash"), (0, u "I"), (2, u "hashIsZero"), (0, u "Z"), (0, .methodref 10 28), (0, .nameAndType 5 29), (0, u "([CIILjava/lang/Void;)V"), (8, .fieldref 10 39), (0, .nameAndType 40 26), (0, u "COMPACT_STRINGS"), (1, .class_ 44), (1, u "java/lang/StringUTF16"), (0, u "compress"), (1, .methodref 42 48), (0, .nameAndType 49 50), (0, u "coderFromArrayLen"), (0, u "([BI)B"), (91, u "()Z"), (34, .methodref 42 178), (0, .nameAndType 45 179), (0, u "([CII)[B"), (395, .class_ 576), (0, u "java/lang/CharSequence"), (22, u "CASE_INSENSITIVE_ORDER"), (0, u "Ljava/util/Comparator;"), (91, u "isEmpty"), (317, u "([C)V"), (90, u "serialPersistentFields"), (0, u "[Ljava/io/ObjectStreamField;"), (0, .class_ 1104), (0, u "java/lang/String$CaseInsensitiveComparator"), (1, .class_ 1107), (0, u "java/io/Serializable"), (0, .class_ 1109), (0, u "java/lang/Comparable"), (0, .class_ 1111), (0, u "java/lang/constant/Constable"), (0, .class_ 1113), (0, u "java/lang/constant/ConstantDesc"), (2, u "serialVersionUID"), (0, u "J"), (3, u "REPL"), (0, u "C"), (2, u "LATIN1"), (1, u "UTF16")] 323

def k7m0 : Method := { name := "<init>", desc := "()V", sig := { parameters := [], returnType := none }, accessFlags := 1, code := none }
def k7c1 : Code := { maxStack := 5, maxLocals := 2, code := jdk_42_method_3_code, exceptionTable := #[], attributes := #[] }
def k7m1 : Method := { name := "<init>", desc := "([C)V", sig := { parameters := [(.array .char)], returnType := none }, accessFlags := 1, code := some k7c1 }
def k7c2 : Code := { maxStack := 1, maxLocals := 1, code := jdk_42_method_55_code, exceptionTable := #[], attributes := #[] }
def k7m2 : Method := { name := "isEmpty", desc := "()Z", sig := { parameters := [], returnType := some .boolean }, accessFlags := 1, code := some k7c2 }
def k7c3 : Code := { maxStack := 4, maxLocals := 6, code := jdk_42_method_149_code, exceptionTable := #[], attributes := #[] }
def k7m3 : Method := { name := "<init>", desc := "([CIILjava/lang/Void;)V", sig := { parameters := [(.array .char), .int, .int, (.object "java/lang/Void")], returnType := none }, accessFlags := 2, code := some k7c3 }
/-- java/lang/String -/
def k7 : Class := { plain "java/lang/String" (some 0) with
  accessFlags := 49
  interfaces := #[2, 3, 4, 5, 6]
  cf := some (fileOf pool7 10 #[.nestMembers #[1103]] #[{ accessFlags := 1, nameIndex := 5, descriptorIndex := 6, attributes := #[] }, { accessFlags := 1, nameIndex := 5, descriptorIndex := 1010, attributes := #[] }, { accessFlags := 1, nameIndex := 692, descriptorIndex := 142, attributes := #[] }, { accessFlags := 2, nameIndex := 5, descriptorIndex := 29, attributes := #[] }] 49 2 #[1106, 1108, 575, 1110, 1112] #[{ accessFlags := 18, nameIndex := 13, descriptorIndex := 14, attributes := #[] }, { accessFlags := 18, nameIndex := 17, descriptorIndex := 18, attributes := #[] }, { accessFlags := 2, nameIndex := 21, descriptorIndex := 22, attributes := #[] }, { accessFlags := 2, nameIndex := 25, descriptorIndex := 26, attributes := #[] }, { accessFlags := 26, nameIndex := 1116, descriptorIndex := 1117, attributes := #[] }, { accessFlags := 24, nameIndex := 40, descriptorIndex := 26, attributes := #[] }, { accessFlags := 26, nameIndex := 1101, descriptorIndex := 1102, attributes := #[] }, { accessFlags := 26, nameIndex := 1121, descriptorIndex := 1122, attributes := #[] }, { accessFlags := 25, nameIndex := 599, descriptorIndex := 600, attributes := #[] }, { accessFlags := 24, nameIndex := 1125, descriptorIndex := 18, attributes := #[] }, { accessFlags := 24, nameIndex := 1127, descriptorIndex := 18, attributes := #[] }])
  fields := #[{ name := "value", type := (.array .byte), accessFlags := 18, slot := 0, constantValue := 0 }, { name := "coder", type := .byte, accessFlags := 18, slot := 1, constantValue := 0 }, { name := "hash", type := .int, accessFlags := 2, slot := 2, constantValue := 0 }, { name := "hashIsZero", type := .boolean, accessFlags := 2, slot := 3, constantValue := 0 }, { name := "serialVersionUID", type := .long, accessFlags := 26, slot := 0, constantValue := 0 }, { name := "COMPACT_STRINGS", type := .boolean, accessFlags := 24, slot := 1, constantValue := 0 }, { name := "serialPersistentFields", type := (.array (.object "java/io/ObjectStreamField")), accessFlags := 26, slot := 2, constantValue := 0 }, { name := "REPL", type := .char, accessFlags := 26, slot := 3, constantValue := 0 }, { name := "CASE_INSENSITIVE_ORDER", type := (.object "java/util/Comparator"), accessFlags := 25, slot := 4, constantValue := 0 }, { name := "LATIN1", type := .byte, accessFlags := 24, slot := 5, constantValue := 0 }, { name := "UTF16", type := .byte, accessFlags := 24, slot := 6, constantValue := 0 }]
  methods := #[k7m0, k7m1, k7m2, k7m3]
  instanceTypes := #[(.array .byte), .byte, .int, .boolean]
  staticTypes := #[.long, .boolean, (.array (.object "java/io/ObjectStreamField")), .char, (.object "java/util/Comparator"), .byte, .byte]
  resolved := Array.replicate 1451 none
  statics := some 0 }

def pool8 : Array CpInfo := pool [(1, .methodref 2 3), (0, .class_ 4), (0, .nameAndType 5 6), (0, u "java/lang/Object"), (0, u "<init>"), (0, u "()V"), (0, .class_ 8), (0, u "java/lang/Record")] 13

def k8c0 : Code := { maxStack := 1, maxLocals := 1, code := jdk_30_method_1_code, exceptionTable := #[], attributes := #[] }
def k8m0 : Method := { name := "<init>", desc := "()V", sig := { parameters := [], returnType := none }, accessFlags := 4, code := some k8c0 }
/-- java/lang/Record -/
def k8 : Class := { plain "java/lang/Record" (some 0) with
  accessFlags := 1057
  interfaces := #[]
  cf := some (fileOf pool8 7 #[] #[{ accessFlags := 4, nameIndex := 5, descriptorIndex := 6, attributes := #[] }] 1057 2 #[] #[])
  fields := #[]
  methods := #[k8m0]
  instanceTypes := #[]
  staticTypes := #[]
  resolved := Array.replicate 22 none
  statics := none }

def pool9 : Array CpInfo := pool [(1, .methodref 2 3), (0, .class_ 4), (0, .nameAndType 5 6), (0, u "java/lang/Record"), (0, u "<init>"), (0, u "()V"), (0, .fieldref 8 9), (0, .class_ 10), (0, .nameAndType 11 12), (0, u "com/example/attestry/attestry/bundle/MessageType"), (0, u "code"), (0, u "Ljava/lang/String;"), (0, .fieldref 8 14), (0, .nameAndType 15 12), (0, u "triggerEvent"), (3, .class_ 21), (1, u "java/lang/String"), (6, u "(Ljava/lang/String;Ljava/lang/String;)V"), (0, .methodref 19 30), (0, .nameAndType 31 32), (0, u "isEmpty"), (0, u "()Z")] 53

def k9c0 : Code := { maxStack := 2, maxLocals := 3, code := prog_32_method_1_code, exceptionTable := #[], attributes := #[] }
def k9m0 : Method := { name := "<init>", desc := "(Ljava/lang/String;Ljava/lang/String;)V", sig := { parameters := [(.object "java/lang/String"), (.object "java/lang/String")], returnType := none }, accessFlags := 1, code := some k9c0 }
def k9c1 : Code := { maxStack := 1, maxLocals := 1, code := prog_32_method_3_code, exceptionTable := #[], attributes := #[] }
def k9m1 : Method := { name := "isEmpty", desc := "()Z", sig := { parameters := [], returnType := some .boolean }, accessFlags := 1, code := some k9c1 }
/-- com/example/attestry/attestry/bundle/MessageType -/
def k9 : Class := { plain "com/example/attestry/attestry/bundle/MessageType" (some 8) with
  accessFlags := 49
  interfaces := #[]
  cf := some (fileOf pool9 8 #[] #[{ accessFlags := 1, nameIndex := 5, descriptorIndex := 28, attributes := #[] }, { accessFlags := 1, nameIndex := 31, descriptorIndex := 32, attributes := #[] }] 49 2 #[] #[{ accessFlags := 18, nameIndex := 11, descriptorIndex := 12, attributes := #[] }, { accessFlags := 18, nameIndex := 15, descriptorIndex := 12, attributes := #[] }])
  fields := #[{ name := "code", type := (.object "java/lang/String"), accessFlags := 18, slot := 0, constantValue := 0 }, { name := "triggerEvent", type := (.object "java/lang/String"), accessFlags := 18, slot := 1, constantValue := 0 }]
  methods := #[k9m0, k9m1]
  instanceTypes := #[(.object "java/lang/String"), (.object "java/lang/String")]
  staticTypes := #[]
  resolved := Array.replicate 86 none
  statics := none }

def pool10 : Array CpInfo := pool [(6, .class_ 8), (1, u "java/lang/Object"), (0, u "<init>"), (0, u "()V"), (1, .class_ 14), (1, u "java/lang/StringUTF16"), (31, u "$assertionsDisabled"), (0, u "Z"), (13, u "HI_BYTE_SHIFT"), (0, u "I"), (2, u "LO_BYTE_SHIFT"), (49, .methodref 12 116), (0, .nameAndType 117 118), (0, u "compress"), (0, u "([CI[BII)I"), (3, u "([CII)[B"), (138, u "coderFromArrayLen"), (0, u "([BI)B"), (106, .class_ 371), (1, u "java/lang/StringUTF16$LinesSpliterator"), (58, u "MAX_LENGTH"), (196, .class_ 628), (0, u "java/lang/StringUTF16$CodePointsSpliterator"), (0, .class_ 630), (0, u "java/lang/StringUTF16$CharsSpliterator")] 4

def k10m0 : Method := { name := "<init>", desc := "()V", sig := { parameters := [], returnType := none }, accessFlags := 0, code := none }
def k10c1 : Code := { maxStack := 2, maxLocals := 2, code := jdk_52_method_15_code, exceptionTable := #[], attributes := #[] }
def k10m1 : Method := { name := "coderFromArrayLen", desc := "([BI)B", sig := { parameters := [(.array .byte), .int], returnType := some .byte }, accessFlags := 8, code := some k10c1 }
def k10c2 : Code := { maxStack := 5, maxLocals := 6, code := jdk_52_method_16_code, exceptionTable := #[], attributes := #[] }
def k10m2 : Method := { name := "compress", desc := "([CII)[B", sig := { parameters := [(.array .char), .int, .int], returnType := some (.array .byte) }, accessFlags := 9, code := some k10c2 }
def k10c3 : Code := { maxStack := 3, maxLocals := 7, code := jdk_52_method_21_code, exceptionTable := #[], attributes := #[] }
def k10m3 : Method := { name := "compress", desc := "([CI[BII)I", sig := { parameters := [(.array .char), .int, (.array .byte), .int, .int], returnType := some .int }, accessFlags := 9, code := some k10c3 }
/-- java/lang/StringUTF16 -/
def k10 : Class := { plain "java/lang/StringUTF16" (some 0) with
  accessFlags := 48
  interfaces := #[]
  cf := some (fileOf pool10 12 #[.nestMembers #[627, 629, 369]] #[{ accessFlags := 0, nameIndex := 9, descriptorIndex := 10, attributes := #[] }, { accessFlags := 8, nameIndex := 261, descriptorIndex := 262, attributes := #[] }, { accessFlags := 9, nameIndex := 117, descriptorIndex := 122, attributes := #[] }, { accessFlags := 9, nameIndex := 117, descriptorIndex := 118, attributes := #[] }] 48 6 #[] #[{ accessFlags := 26, nameIndex := 61, descriptorIndex := 62, attributes := #[] }, { accessFlags := 26, nameIndex := 65, descriptorIndex := 62, attributes := #[] }, { accessFlags := 24, nameIndex := 430, descriptorIndex := 62, attributes := #[] }, { accessFlags := 4120, nameIndex := 46, descriptorIndex := 47, attributes := #[] }])
  fields := #[{ name := "HI_BYTE_SHIFT", type := .int, accessFlags := 26, slot := 0, constantValue := 0 }, { name := "LO_BYTE_SHIFT", type := .int, accessFlags := 26, slot := 1, constantValue := 0 }, { name := "MAX_LENGTH", type := .int, accessFlags := 24, slot := 2, constantValue := 0 }, { name := "$assertionsDisabled", type := .boolean, accessFlags := 4120, slot := 3, constantValue := 0 }]
  methods := #[k10m0, k10m1, k10m2, k10m3]
  instanceTypes := #[]
  staticTypes := #[.int, .int, .int, .boolean]
  resolved := Array.replicate 635 none
  statics := none }

def pool11 : Array CpInfo := pool [(4, .class_ 6), (1, u "java/lang/Object"), (0, u "<init>"), (0, u "()V"), (5, .class_ 16), (1, u "java/lang/StringLatin1"), (104, u "$assertionsDisabled"), (0, u "Z"), (98, .class_ 223), (1, u "java/lang/StringLatin1$LinesSpliterator"), (166, .class_ 391), (0, u "java/lang/StringLatin1$CharsSpliterator")] 3

def k11m0 : Method := { name := "<init>", desc := "()V", sig := { parameters := [], returnType := none }, accessFlags := 0, code := none }
/-- java/lang/StringLatin1 -/
def k11 : Class := { plain "java/lang/StringLatin1" (some 0) with
  accessFlags := 48
  interfaces := #[]
  cf := some (fileOf pool11 14 #[.nestMembers #[390, 221]] #[{ accessFlags := 0, nameIndex := 7, descriptorIndex := 8, attributes := #[] }] 48 4 #[] #[{ accessFlags := 4120, nameIndex := 121, descriptorIndex := 122, attributes := #[] }])
  fields := #[{ name := "$assertionsDisabled", type := .boolean, accessFlags := 4120, slot := 0, constantValue := 0 }]
  methods := #[k11m0]
  instanceTypes := #[]
  staticTypes := #[.boolean]
  resolved := Array.replicate 395 none
  statics := none }

def pool12 : Array CpInfo := pool [(2, .class_ 4), (1, u "java/lang/Object"), (0, u "<init>"), (0, u "()V"), (17, .class_ 26), (1, u "jdk/internal/util/Preconditions"), (28, .class_ 56), (0, u "jdk/internal/util/Preconditions$4"), (57, .class_ 115), (0, u "jdk/internal/util/Preconditions$1"), (7, u "SIOOBE_FORMATTER"), (0, u "Ljava/util/function/BiFunction;"), (0, .class_ 126), (0, u "jdk/internal/util/Preconditions$2"), (3, u "AIOOBE_FORMATTER"), (0, .class_ 132), (0, u "jdk/internal/util/Preconditions$3"), (3, u "IOOBE_FORMATTER")] 57

def k12m0 : Method := { name := "<init>", desc := "()V", sig := { parameters := [], returnType := none }, accessFlags := 1, code := none }
/-- jdk/internal/util/Preconditions -/
def k12 : Class := { plain "jdk/internal/util/Preconditions" (some 0) with
  accessFlags := 33
  interfaces := #[]
  cf := some (fileOf pool12 24 #[.nestMembers #[55, 131, 125, 114]] #[{ accessFlags := 1, nameIndex := 5, descriptorIndex := 6, attributes := #[] }] 33 2 #[] #[{ accessFlags := 25, nameIndex := 123, descriptorIndex := 124, attributes := #[] }, { accessFlags := 25, nameIndex := 130, descriptorIndex := 124, attributes := #[] }, { accessFlags := 25, nameIndex := 136, descriptorIndex := 124, attributes := #[] }])
  fields := #[{ name := "SIOOBE_FORMATTER", type := (.object "java/util/function/BiFunction"), accessFlags := 25, slot := 0, constantValue := 0 }, { name := "AIOOBE_FORMATTER", type := (.object "java/util/function/BiFunction"), accessFlags := 25, slot := 1, constantValue := 0 }, { name := "IOOBE_FORMATTER", type := (.object "java/util/function/BiFunction"), accessFlags := 25, slot := 2, constantValue := 0 }]
  methods := #[k12m0]
  instanceTypes := #[]
  staticTypes := #[(.object "java/util/function/BiFunction"), (.object "java/util/function/BiFunction"), (.object "java/util/function/BiFunction")]
  resolved := Array.replicate 194 none
  statics := some 1 }

def pool13 : Array CpInfo := pool [(9, u "<init>"), (6, .class_ 18), (1, u "java/lang/Object"), (0, u "()V"), (1, .class_ 23), (1, u "jdk/internal/util/ArraysSupport"), (0, u "LOG2_ARRAY_LONG_INDEX_SCALE"), (0, u "I"), (2, u "U"), (0, u "Ljdk/internal/misc/Unsafe;"), (8, u "BIG_ENDIAN"), (0, u "Z"), (8, u "LOG2_BYTE_BIT_SIZE"), (4, u "LOG2_ARRAY_INT_INDEX_SCALE"), (54, u "JLA"), (0, u "Ljdk/internal/access/JavaLangAccess;"), (11, u "LOG2_ARRAY_BOOLEAN_INDEX_SCALE"), (9, u "LOG2_ARRAY_BYTE_INDEX_SCALE"), (5, u "LOG2_ARRAY_CHAR_INDEX_SCALE"), (5, u "LOG2_ARRAY_SHORT_INDEX_SCALE"), (18, u "LOG2_ARRAY_FLOAT_INDEX_SCALE"), (24, u "LOG2_ARRAY_DOUBLE_INDEX_SCALE"), (89, u "T_BOOLEAN"), (2, u "T_CHAR"), (1, u "T_FLOAT"), (1, u "T_DOUBLE"), (1, u "T_BYTE"), (1, u "T_SHORT"), (1, u "T_INT"), (1, u "T_LONG"), (1, u "SOFT_MAX_ARRAY_LENGTH")] 83

def k13m0 : Method := { name := "<init>", desc := "()V", sig := { parameters := [], returnType := none }, accessFlags := 2, code := none }
/-- jdk/internal/util/ArraysSupport -/
def k13 : Class := { plain "jdk/internal/util/ArraysSupport" (some 0) with
  accessFlags := 33
  interfaces := #[]
  cf := some (fileOf pool13 21 #[] #[{ accessFlags := 2, nameIndex := 9, descriptorIndex := 19, attributes := #[] }] 33 16 #[] #[{ accessFlags := 24, nameIndex := 28, descriptorIndex := 29, attributes := #[] }, { accessFlags := 26, nameIndex := 38, descriptorIndex := 39, attributes := #[] }, { accessFlags := 25, nameIndex := 121, descriptorIndex := 25, attributes := #[] }, { accessFlags := 25, nameIndex := 131, descriptorIndex := 25, attributes := #[] }, { accessFlags := 25, nameIndex := 137, descriptorIndex := 25, attributes := #[] }, { accessFlags := 25, nameIndex := 143, descriptorIndex := 25, attributes := #[] }, { accessFlags := 25, nameIndex := 53, descriptorIndex := 25, attributes := #[] }, { accessFlags := 25, nameIndex := 24, descriptorIndex := 25, attributes := #[] }, { accessFlags := 25, nameIndex := 162, descriptorIndex := 25, attributes := #[] }, { accessFlags := 25, nameIndex := 187, descriptorIndex := 25, attributes := #[] }, { accessFlags := 26, nameIndex := 48, descriptorIndex := 25, attributes := #[] }, { accessFlags := 25, nameIndex := 277, descriptorIndex := 25, attributes := #[] }, { accessFlags := 25, nameIndex := 280, descriptorIndex := 25, attributes := #[] }, { accessFlags := 25, nameIndex := 282, descriptorIndex := 25, attributes := #[] }, { accessFlags := 25, nameIndex := 284, descriptorIndex := 25, attributes := #[] }, { accessFlags := 25, nameIndex := 286, descriptorIndex := 25, attributes := #[] }, { accessFlags := 25, nameIndex := 288, descriptorIndex := 25, attributes := #[] }, { accessFlags := 25, nameIndex := 290, descriptorIndex := 25, attributes := #[] }, { accessFlags := 25, nameIndex := 292, descriptorIndex := 25, attributes := #[] }, { accessFlags := 26, nameIndex := 108, descriptorIndex := 109, attributes := #[] }, { accessFlags := 25, nameIndex := 294, descriptorIndex := 25, attributes := #[] }])
  fields := #[{ name := "U", type := (.object "jdk/internal/misc/Unsafe"), accessFlags := 24, slot := 0, constantValue := 0 }, { name := "BIG_ENDIAN", type := .boolean, accessFlags := 26, slot := 1, constantValue := 0 }, { name := "LOG2_ARRAY_BOOLEAN_INDEX_SCALE", type := .int, accessFlags := 25, slot := 2, constantValue := 0 }, { name := "LOG2_ARRAY_BYTE_INDEX_SCALE", type := .int, accessFlags := 25, slot := 3, constantValue := 0 }, { name := "LOG2_ARRAY_CHAR_INDEX_SCALE", type := .int, accessFlags := 25, slot := 4, constantValue := 0 }, { name := "LOG2_ARRAY_SHORT_INDEX_SCALE", type := .int, accessFlags := 25, slot := 5, constantValue := 0 }, { name := "LOG2_ARRAY_INT_INDEX_SCALE", type := .int, accessFlags := 25, slot := 6, constantValue := 0 }, { name := "LOG2_ARRAY_LONG_INDEX_SCALE", type := .int, accessFlags := 25, slot := 7, constantValue := 0 }, { name := "LOG2_ARRAY_FLOAT_INDEX_SCALE", type := .int, accessFlags := 25, slot := 8, constantValue := 0 }, { name := "LOG2_ARRAY_DOUBLE_INDEX_SCALE", type := .int, accessFlags := 25, slot := 9, constantValue := 0 }, { name := "LOG2_BYTE_BIT_SIZE", type := .int, accessFlags := 26, slot := 10, constantValue := 0 }, { name := "T_BOOLEAN", type := .int, accessFlags := 25, slot := 11, constantValue := 0 }, { name := "T_CHAR", type := .int, accessFlags := 25, slot := 12, constantValue := 0 }, { name := "T_FLOAT", type := .int, accessFlags := 25, slot := 13, constantValue := 0 }, { name := "T_DOUBLE", type := .int, accessFlags := 25, slot := 14, constantValue := 0 }, { name := "T_BYTE", type := .int, accessFlags := 25, slot := 15, constantValue := 0 }, { name := "T_SHORT", type := .int, accessFlags := 25, slot := 16, constantValue := 0 }, { name := "T_INT", type := .int, accessFlags := 25, slot := 17, constantValue := 0 }, { name := "T_LONG", type := .int, accessFlags := 25, slot := 18, constantValue := 0 }, { name := "JLA", type := (.object "jdk/internal/access/JavaLangAccess"), accessFlags := 26, slot := 19, constantValue := 0 }, { name := "SOFT_MAX_ARRAY_LENGTH", type := .int, accessFlags := 25, slot := 20, constantValue := 0 }]
  methods := #[k13m0]
  instanceTypes := #[]
  staticTypes := #[(.object "jdk/internal/misc/Unsafe"), .boolean, .int, .int, .int, .int, .int, .int, .int, .int, .int, .int, .int, .int, .int, .int, .int, .int, .int, (.object "jdk/internal/access/JavaLangAccess"), .int]
  resolved := Array.replicate 378 none
  statics := none }

def pool14 : Array CpInfo := pool [(1, u "java/lang/Cloneable"), (0, .class_ 1), (0, u "java/lang/Object"), (0, .class_ 3)] 3

/-- java/lang/Cloneable -/
def k14 : Class := { plain "java/lang/Cloneable" (some 0) with
  accessFlags := 1537
  interfaces := #[]
  cf := some (fileOf pool14 2 #[] #[] 1537 4 #[] #[])
  fields := #[]
  methods := #[]
  instanceTypes := #[]
  staticTypes := #[]
  resolved := Array.replicate 8 none
  statics := none }

/-- the primitive byte -/
def k15 : Class := { plain "byte" none with kind := .primitive 'B', accessFlags := 0x411 }
/-- [B -/
def k16 : Class := { plain "[B" (some 0) with kind := .array 15 .byte, interfaces := #[14, 2], accessFlags := 1041 }

/-- the primitive char -/
def k17 : Class := { plain "char" none with kind := .primitive 'C', accessFlags := 0x411 }
/-- [C -/
def k18 : Class := { plain "[C" (some 0) with kind := .array 17 .char, interfaces := #[14, 2], accessFlags := 1041 }

/-- the primitive int -/
def k19 : Class := { plain "int" none with kind := .primitive 'I', accessFlags := 0x411 }
/-- [I -/
def k20 : Class := { plain "[I" (some 0) with kind := .array 19 .int, interfaces := #[14, 2], accessFlags := 1041 }

def heap : Heap := #[{ cls := 7, slots := #[.long 0, .int 1, .null, .int 0, .null, .int 0, .int 0], vm := .statics 7 },
  { cls := 12, slots := #[.null, .null, .null], vm := .statics 12 }]
def classes : Array Class := #[k0, k1, k2, k3, k4, k5, k6, k7, k8, k9, k10, k11, k12, k13, k14, k15, k16, k17, k18, k19, k20]
def interned : List (Array UInt16 × Addr) := []
def slotsUsed : Nat := 10
def theMethod : MethodId := ⟨1, 2⟩
def args0 : Array Value := #[.int 1, .int 2, .int 65, .int 66, .int 67, .int 68]
def aboutOver (below : List Frame) : State where
  vm := { classes := classes, interned := interned.toArray }
  heap := heap
  slotsUsed := slotsUsed
  threads := #[{ frames := .invoking theMethod args0 :: below }]
def below0 : List Frame := [.native { method := ⟨0, 0⟩, args := #[] }]
def about1 : State := aboutOver below0
def p0 : Program := .bare "" "" ""
def e0 : Env := launch0.env 0 0 0
theorem w_frames : about1.frames = Frame.invoking theMethod args0 :: below0 := rfl
set_option maxRecDepth 65536 in
theorem w_args : argsFit about1.vm theMethod args0 = true := by decide +kernel
set_option maxRecDepth 65536 in
theorem w_heap : heapFits about1 = true := by decide +kernel
set_option maxRecDepth 65536 in
theorem w_runnable : about1.curStatus? = some .runnable := by decide +kernel
set_option maxRecDepth 65536 in
theorem w_alone : about1.alone = true := by decide +kernel
set_option maxRecDepth 65536 in
theorem w_named : about1.methodNamed? x = some theMethod := by decide +kernel
set_option maxRecDepth 65536 in
theorem w_hears : about1.hears theMethod below0 = true := by decide +kernel
set_option maxRecDepth 65536 in
theorem w_ripe : about1.ripe theMethod args0 below0 = true := by decide +kernel
theorem w_running : about1.status = .running := rfl
set_option maxRecDepth 65536 in
theorem w_room : about1.hasRoom e0.platform room_1 = true :=
  launch0.hasRoom_least _ room_1 (by decide +kernel) (by decide +kernel) (by decide +kernel) (by decide +kernel) (by decide +kernel) (by decide +kernel)
theorem allAtoms_all (ts : List Jvm.Cond) (a : Array Jvm.Value) (st : Jvm.State) : (allAtoms ts).before a st = ts.all (fun c => c.before a st) := by
  induction ts with
  | nil => rfl
  | cons c t ih =>
    show (Jvm.Cond.and c (allAtoms t)).before a st = _
    rw [Jvm.Cond.before_and, ih, List.all_cons]
def words1 : List Jvm.Cond := Jvm.Cond.code x code maxLocals ret :: tables_1
/-- a 'code' word, met by the world's own term for the bytes: nothing is compared byte by byte -/
theorem code_word {y : MethodName} {bytes : ByteArray} {mx : Nat} {rt : Option FieldType} {a : Array Value} {s : State} {m : MethodId} {meth : Method} {c : Code} (h1 : s.methodNamed? y = some m) (h2 : s.vm.method? m = some meth) (h3 : meth.code = some c) (h4 : c.code = bytes)
    (h5 : (c.maxLocals == mx && c.exceptionTable.isEmpty && decide (c.maxStack ≤ mostOperands) && decide (meth.sig.returnType = rt) && !meth.locks && decide (parseMethodDescriptor y.desc = some meth.sig)) = true) : (Jvm.Cond.code y bytes mx rt).before a s = true := by
  simp only [Bool.and_eq_true, beq_iff_eq, Bool.not_eq_true', decide_eq_true_eq] at h5
  obtain ⟨⟨⟨⟨⟨g1, g2⟩, g3⟩, g4⟩, g5⟩, g6⟩ := h5
  simp [Cond.before, Cond.holds, Cond.value, h1, h2, h3, h4, g1, g2, g3, g4, g5, g6]
def isCode : Jvm.Cond → Bool
  | .code _ _ _ _ => true
  | _ => false
theorem all_split {L : List Jvm.Cond} {P : Jvm.Cond → Bool} (h1 : L.all (fun c => isCode c || P c) = true) (h2 : ∀ c ∈ L.filter isCode, P c = true) : L.all P = true := by
  refine List.all_eq_true.mpr fun c hc => ?_
  have h := List.all_eq_true.mp h1 c hc
  rcases Bool.eq_false_or_eq_true (isCode c) with hi | hi
  · exact h2 c (List.mem_filter.mpr ⟨hc, hi⟩)
  · simpa [hi] using h
set_option maxRecDepth 65536 in
theorem w_c0 : (Jvm.Cond.code x code maxLocals ret).before args0 about1 = true := code_word (m := ⟨1, 2⟩) (meth := k1m2) (c := k1c2) (by decide +kernel) rfl rfl rfl (by decide +kernel)
set_option maxRecDepth 65536 in
theorem w_c1 : (Jvm.Cond.code ({ cls := "com/example/attestry/attestry/bundle/MessageTypeIsEmptyPinLaw", name := "draw", desc := "(III)Ljava/lang/String;" } : Jvm.MethodName) method_2_code (4 : Nat) (Option.some (Jvm.ClassFile.FieldType.object "java/lang/String"))).before args0 about1 = true := code_word (m := ⟨1, 1⟩) (meth := k1m1) (c := k1c1) (by decide +kernel) rfl rfl rfl (by decide +kernel)
set_option maxRecDepth 65536 in
theorem w_c2 : (Jvm.Cond.code ({ cls := "java/lang/String", name := "<init>", desc := "([C)V" } : Jvm.MethodName) jdk_42_method_3_code (2 : Nat) (Option.none : Option Jvm.ClassFile.FieldType)).before args0 about1 = true := code_word (m := ⟨7, 1⟩) (meth := k7m1) (c := k7c1) (by decide +kernel) rfl rfl rfl (by decide +kernel)
set_option maxRecDepth 65536 in
theorem w_c3 : (Jvm.Cond.code ({ cls := "java/lang/String", name := "<init>", desc := "([CIILjava/lang/Void;)V" } : Jvm.MethodName) jdk_42_method_149_code (6 : Nat) (Option.none : Option Jvm.ClassFile.FieldType)).before args0 about1 = true := code_word (m := ⟨7, 3⟩) (meth := k7m3) (c := k7c3) (by decide +kernel) rfl rfl rfl (by decide +kernel)
set_option maxRecDepth 65536 in
theorem w_c4 : (Jvm.Cond.code ({ cls := "java/lang/Object", name := "<init>", desc := "()V" } : Jvm.MethodName) object_method_1_code (1 : Nat) (Option.none : Option Jvm.ClassFile.FieldType)).before args0 about1 = true := code_word (m := ⟨0, 0⟩) (meth := k0m0) (c := k0c0) (by decide +kernel) rfl rfl rfl (by decide +kernel)
set_option maxRecDepth 65536 in
theorem w_c5 : (Jvm.Cond.code ({ cls := "com/example/attestry/attestry/bundle/MessageType", name := "<init>", desc := "(Ljava/lang/String;Ljava/lang/String;)V" } : Jvm.MethodName) prog_32_method_1_code (3 : Nat) (Option.none : Option Jvm.ClassFile.FieldType)).before args0 about1 = true := code_word (m := ⟨9, 0⟩) (meth := k9m0) (c := k9c0) (by decide +kernel) rfl rfl rfl (by decide +kernel)
set_option maxRecDepth 65536 in
theorem w_c6 : (Jvm.Cond.code ({ cls := "java/lang/Record", name := "<init>", desc := "()V" } : Jvm.MethodName) jdk_30_method_1_code (1 : Nat) (Option.none : Option Jvm.ClassFile.FieldType)).before args0 about1 = true := code_word (m := ⟨8, 0⟩) (meth := k8m0) (c := k8c0) (by decide +kernel) rfl rfl rfl (by decide +kernel)
set_option maxRecDepth 65536 in
theorem w_c7 : (Jvm.Cond.code ({ cls := "com/example/attestry/attestry/bundle/MessageType", name := "isEmpty", desc := "()Z" } : Jvm.MethodName) prog_32_method_3_code (1 : Nat) (Option.some Jvm.ClassFile.FieldType.boolean)).before args0 about1 = true := code_word (m := ⟨9, 1⟩) (meth := k9m1) (c := k9c1) (by decide +kernel) rfl rfl rfl (by decide +kernel)
set_option maxRecDepth 65536 in
theorem w_c8 : (Jvm.Cond.code ({ cls := "java/lang/String", name := "isEmpty", desc := "()Z" } : Jvm.MethodName) jdk_42_method_55_code (1 : Nat) (Option.some Jvm.ClassFile.FieldType.boolean)).before args0 about1 = true := code_word (m := ⟨7, 2⟩) (meth := k7m2) (c := k7c2) (by decide +kernel) rfl rfl rfl (by decide +kernel)
set_option maxRecDepth 65536 in
theorem w_c9 : (Jvm.Cond.code ({ cls := "java/lang/StringUTF16", name := "compress", desc := "([CII)[B" } : Jvm.MethodName) jdk_52_method_16_code (6 : Nat) (Option.some (Jvm.ClassFile.FieldType.array Jvm.ClassFile.FieldType.byte))).before args0 about1 = true := code_word (m := ⟨10, 2⟩) (meth := k10m2) (c := k10c2) (by decide +kernel) rfl rfl rfl (by decide +kernel)
set_option maxRecDepth 65536 in
theorem w_c10 : (Jvm.Cond.code ({ cls := "java/lang/StringUTF16", name := "compress", desc := "([CI[BII)I" } : Jvm.MethodName) jdk_52_method_21_code (7 : Nat) (Option.some Jvm.ClassFile.FieldType.int)).before args0 about1 = true := code_word (m := ⟨10, 3⟩) (meth := k10m3) (c := k10c3) (by decide +kernel) rfl rfl rfl (by decide +kernel)
set_option maxRecDepth 65536 in
theorem w_c11 : (Jvm.Cond.code ({ cls := "java/lang/StringUTF16", name := "coderFromArrayLen", desc := "([BI)B" } : Jvm.MethodName) jdk_52_method_15_code (2 : Nat) (Option.some Jvm.ClassFile.FieldType.byte)).before args0 about1 = true := code_word (m := ⟨10, 1⟩) (meth := k10m1) (c := k10c1) (by decide +kernel) rfl rfl rfl (by decide +kernel)
def codes1 : List Jvm.Cond := [Jvm.Cond.code x code maxLocals ret, Jvm.Cond.code ({ cls := "com/example/attestry/attestry/bundle/MessageTypeIsEmptyPinLaw", name := "draw", desc := "(III)Ljava/lang/String;" } : Jvm.MethodName) method_2_code (4 : Nat) (Option.some (Jvm.ClassFile.FieldType.object "java/lang/String")), Jvm.Cond.code ({ cls := "java/lang/String", name := "<init>", desc := "([C)V" } : Jvm.MethodName) jdk_42_method_3_code (2 : Nat) (Option.none : Option Jvm.ClassFile.FieldType), Jvm.Cond.code ({ cls := "java/lang/String", name := "<init>", desc := "([CIILjava/lang/Void;)V" } : Jvm.MethodName) jdk_42_method_149_code (6 : Nat) (Option.none : Option Jvm.ClassFile.FieldType), Jvm.Cond.code ({ cls := "java/lang/Object", name := "<init>", desc := "()V" } : Jvm.MethodName) object_method_1_code (1 : Nat) (Option.none : Option Jvm.ClassFile.FieldType), Jvm.Cond.code ({ cls := "com/example/attestry/attestry/bundle/MessageType", name := "<init>", desc := "(Ljava/lang/String;Ljava/lang/String;)V" } : Jvm.MethodName) prog_32_method_1_code (3 : Nat) (Option.none : Option Jvm.ClassFile.FieldType), Jvm.Cond.code ({ cls := "java/lang/Record", name := "<init>", desc := "()V" } : Jvm.MethodName) jdk_30_method_1_code (1 : Nat) (Option.none : Option Jvm.ClassFile.FieldType), Jvm.Cond.code ({ cls := "com/example/attestry/attestry/bundle/MessageType", name := "isEmpty", desc := "()Z" } : Jvm.MethodName) prog_32_method_3_code (1 : Nat) (Option.some Jvm.ClassFile.FieldType.boolean), Jvm.Cond.code ({ cls := "java/lang/String", name := "isEmpty", desc := "()Z" } : Jvm.MethodName) jdk_42_method_55_code (1 : Nat) (Option.some Jvm.ClassFile.FieldType.boolean), Jvm.Cond.code ({ cls := "java/lang/StringUTF16", name := "compress", desc := "([CII)[B" } : Jvm.MethodName) jdk_52_method_16_code (6 : Nat) (Option.some (Jvm.ClassFile.FieldType.array Jvm.ClassFile.FieldType.byte)), Jvm.Cond.code ({ cls := "java/lang/StringUTF16", name := "compress", desc := "([CI[BII)I" } : Jvm.MethodName) jdk_52_method_21_code (7 : Nat) (Option.some Jvm.ClassFile.FieldType.int), Jvm.Cond.code ({ cls := "java/lang/StringUTF16", name := "coderFromArrayLen", desc := "([BI)B" } : Jvm.MethodName) jdk_52_method_15_code (2 : Nat) (Option.some Jvm.ClassFile.FieldType.byte)]
set_option maxRecDepth 65536 in
theorem codes_eq : words1.filter isCode = codes1 := rfl
theorem w_codes : ∀ c ∈ words1.filter isCode, c.before args0 about1 = true := by
  rw [codes_eq]
  intro c hc
  simp only [codes1, List.mem_cons, List.not_mem_nil, or_false] at hc
  rcases hc with rfl | rfl | rfl | rfl | rfl | rfl | rfl | rfl | rfl | rfl | rfl | rfl
  · exact w_c0
  · exact w_c1
  · exact w_c2
  · exact w_c3
  · exact w_c4
  · exact w_c5
  · exact w_c6
  · exact w_c7
  · exact w_c8
  · exact w_c9
  · exact w_c10
  · exact w_c11
set_option maxRecDepth 65536 in
theorem w_t1 : (words1.take 24).all (fun c => isCode c || c.before args0 about1) = true := by decide +kernel
set_option maxRecDepth 65536 in
theorem w_t2 : ((words1.drop 24).take 24).all (fun c => isCode c || c.before args0 about1) = true := by decide +kernel
set_option maxRecDepth 65536 in
theorem w_t3 : ((words1.drop 24).drop 24).all (fun c => isCode c || c.before args0 about1) = true := by decide +kernel
theorem w_tables : (allAtoms (Jvm.Cond.code x code maxLocals ret :: tables_1)).before args0 about1 = true := by
  rw [allAtoms_all]
  show words1.all (fun c => c.before args0 about1) = true
  refine all_split ?_ w_codes
  rw [← List.take_append_drop 24 words1, List.all_append, w_t1, ← List.take_append_drop 24 (words1.drop 24), List.all_append, w_t2, w_t3]
  rfl
set_option maxRecDepth 65536 in
theorem w_rest : rest_1_c.before args0 about1 = true := by decide +kernel
set_option maxRecDepth 65536 in
theorem w_case : (Jvm.Cond.and given_1 narrow_1).before args0 about1 = true := by decide +kernel
set_option maxRecDepth 65536 in
theorem w_consts : constsHeld consts_1 about1 := Jvm.Lit.constsHeldB_iff.mp (by decide +kernel)
theorem w_applies : (headSpec (Jvm.Cond.code x code maxLocals ret :: tables_1) room_1).applies x e0.platform about1 = true :=
  (Spec.applies_iff w_frames).mpr ⟨w_running, w_runnable, w_alone, w_named, w_hears, w_ripe, w_room, w_tables⟩
theorem atStart : AtStart classFile x code maxLocals ret World_1 tables_1 room_1 Calls_1 rest_1 Pre_1 launch0 p0 e0 about1 theMethod args0 below0 :=
  ⟨lists_1, trivial, launch0.admits_env _ _ _, launch0.least_env, fairChoices_fair.cas, fairChoices_fair.clock, w_frames, w_args, w_heap, w_applies, ⟨w_consts, trivial⟩, w_rest, w_case⟩
end start1
theorem witness_1 : WitnessClaimed_1 := ⟨start1.p0, start1.e0, start1.about1, start1.theMethod, start1.args0, start1.below0, start1.atStart⟩
end Jvm.Pilot.@@N@@
