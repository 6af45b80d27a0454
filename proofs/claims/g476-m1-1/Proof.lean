import JvmDerived
import JvmDerived.Pilot.@@N@@Statement
import JvmDerived.Pilot.@@N@@Code
set_option linter.unusedVariables false
set_option linter.unusedSimpArgs false
namespace Jvm.RoadKit
open Sem ClassFile Op Lib Jvm.Stand Jvm.Free Jvm.LawKit
section OwnGo
variable {p : Program} {l : Launch} {e : Env} {R : Room} {s : State} {m : MethodId} {args : Array Value} {below : List Frame} {meth : Method} {c : Code} {T T' : State} {locs : List Loc} {cells slots : Nat} {tb : Tables} {P : State → Outcome → Prop} {g g' : JFrame} {Z : State} {a0 : Array Value} {h h' : Heap}
/-- from here the run goes on to an end that P says -/
def Go (tb : Tables) (e : Env) (below : List Frame) (P : State → Outcome → Prop) (T : State) (g : JFrame) : Prop :=
  ∃ u o, Steps tb e below (T.setTop g) u ∧ u.status = .running ∧ Ended u below o ∧ P u o
theorem Go.st (st : ∀ target, Steps tb e below (T'.setTop g') target → Steps tb e below (T.setTop g) target) (k : Go tb e below P T' g') : Go tb e below P T g := by
  obtain ⟨u, o, h1, h2⟩ := k
  exact ⟨u, o, st u h1, h2⟩
theorem Go.tr (st : Steps tb e below (T.setTop g) (T'.setTop g')) (k : Go tb e below P T' g') : Go tb e below P T g := Go.st (fun _ h => st.trans h) k
theorem Go.cast (q : g = g') (k : Go tb e below P T g') : Go tb e below P T g := q ▸ k
/-- the end of a body that interns nothing -/
def FinP (s : State) (Q : Option Value → Heap → List Loc → Prop) (K N : Nat) (u : State) (o : Outcome) : Prop := ∃ v L, o = .returned v ∧ Q v u.heap L ∧ FrameEnd s o u L K N
theorem Go.retN {Q : Option Value → Heap → List Loc → Prop} {K N : Nat} (X : Stand p l e R s m args below meth c T locs cells slots) (hx : p.tables.exec = Jvm.exec) (hlk : meth.locks = false) {pc : Nat} {Ls : Array Slot} {z : Int32} {t : FieldType} {rest : List Value} (hret : meth.sig.returnType = some t)
    (hn : narrow t (.int z) = .int z) (ht : t = .int ∨ t = .boolean ∨ t = .byte ∨ t = .char ∨ t = .short) (hd : decode c.code pc = .ok (.ireturn, 1)) (hK : cells ≤ K) (hN : slots ≤ N) (eT : T.heap = h) (hQ : Q (some (.int z)) h locs) : Go p.tables e below (FinP s Q K N) T (mkF m pc Ls (.int z :: rest)) := by
  obtain ⟨fs, hr, hrun, hended, hW, hsame⟩ := X.leave (v := some (.int z)) (fun h => by rw [hret] at h; cases h) hlk
  exact ⟨_, _, retOut X hx hret hn (Or.inl ⟨rfl, ht, z, rfl⟩) hd hr, hrun, hended, _, _, rfl, (by rw [show (T.setFrames fs).heap = h from eT]; exact hQ), ⟨_, rfl⟩, hW, hsame.mono hK hN⟩
theorem Go.retL {Q : Option Value → Heap → List Loc → Prop} {K N : Nat} (X : Stand p l e R s m args below meth c T locs cells slots) (hx : p.tables.exec = Jvm.exec) (hlk : meth.locks = false) {pc : Nat} {Ls : Array Slot} {z : Int64} {rest : List Value} (hret : meth.sig.returnType = some .long)
    (hd : decode c.code pc = .ok (.lreturn, 1)) (hK : cells ≤ K) (hN : slots ≤ N) (eT : T.heap = h) (hQ : Q (some (.long z)) h locs) : Go p.tables e below (FinP s Q K N) T (mkF m pc Ls (.long z :: rest)) := by
  obtain ⟨fs, hr, hrun, hended, hW, hsame⟩ := X.leave (v := some (.long z)) (fun h => by rw [hret] at h; cases h) hlk
  exact ⟨_, _, retOut X hx hret rfl (Or.inr (Or.inl ⟨rfl, rfl, z, rfl⟩)) hd hr, hrun, hended, _, _, rfl, (by rw [show (T.setFrames fs).heap = h from eT]; exact hQ), ⟨_, rfl⟩, hW, hsame.mono hK hN⟩
theorem narrow_ref {t : FieldType} {w : Value} (ht : t.isReference = true) : narrow t w = w := by cases t <;> first | rfl | (cases w <;> rfl) | (simp [FieldType.isReference] at ht)
theorem Go.retA {Q : Option Value → Heap → List Loc → Prop} {K N : Nat} (X : Stand p l e R s m args below meth c T locs cells slots) (hx : p.tables.exec = Jvm.exec) (hlk : meth.locks = false) {pc : Nat} {Ls : Array Slot} {w : Value} {t : FieldType} {rest : List Value} (hret : meth.sig.returnType = some t)
    (ht : t.isReference = true) (hw : w.isRef = true) (hd : decode c.code pc = .ok (.areturn, 1)) (hK : cells ≤ K) (hN : slots ≤ N) (eT : T.heap = h) (hQ : Q (some w) h locs) : Go p.tables e below (FinP s Q K N) T (mkF m pc Ls (w :: rest)) := by
  obtain ⟨fs, hr, hrun, hended, hW, hsame⟩ := X.leave (v := some w) (fun h => by rw [hret] at h; cases h) hlk
  exact ⟨_, _, retOut X hx hret (narrow_ref ht) (Or.inr (Or.inr (Or.inr (Or.inr ⟨rfl, ht, hw⟩)))) hd hr, hrun, hended, _, _, rfl, (by rw [show (T.setFrames fs).heap = h from eT]; exact hQ), ⟨_, rfl⟩, hW, hsame.mono hK hN⟩
theorem Go.retV {Q : Option Value → Heap → List Loc → Prop} {K N : Nat} (X : Stand p l e R s m args below meth c T locs cells slots) (hx : p.tables.exec = Jvm.exec) (hlk : meth.locks = false) {pc : Nat} {Ls : Array Slot} (hret : meth.sig.returnType = none)
    (hd : decode c.code pc = .ok (.return_, 1)) (hK : cells ≤ K) (hN : slots ≤ N) (eT : T.heap = h) (hQ : Q none h locs) : Go p.tables e below (FinP s Q K N) T (mkF m pc Ls []) := by
  obtain ⟨fs, hr, hrun, hended, hW, hsame⟩ := X.leave (v := none) (fun _ => rfl) hlk
  exact ⟨_, _, X.returnOut hx hret hd hr, hrun, hended, _, _, rfl, (by rw [show (T.setFrames fs).heap = h from eT]; exact hQ), ⟨_, rfl⟩, hW, hsame.mono hK hN⟩
/-- a body's contract: called with as' at the heap h0 it returns as Q says -/
def Con (l : Launch) (Z : State) (y : MethodName) (bytes : ByteArray) (maxL : Nat) (ret : Option FieldType) (ws : List Cond) (rm : Room) (as' : Array Value) (h0 : Heap) (Q : Option Value → Heap → List Loc → Prop) : Prop :=
  MetFree l y (head1 (Cond.code y bytes maxL ret :: ws) rm) (fun a U => a = as' ∧ Z.Warmed39 U.vm ∧ U.heap = h0) (fun _ _ _ _ _ => True) (fun _ U o U' => ∃ v L, o = .returned v ∧ Q v U'.heap L ∧ FrameEnd U o U' L rm.cells rm.slots)
theorem Con.enter {y : MethodName} {bytes : ByteArray} {maxL : Nat} {ret : Option FieldType} {ws : List Cond} {rm : Room} {as' : Array Value} {h0 : Heap} {Q : Option Value → Heap → List Loc → Prop} (hp : plainFor y = true)
    (H : ∀ (p : Program) (e : Env) (s : State) (m : MethodId) (below : List Frame) (meth : Method) (c : Code) (s₁ : State), Stand p l e rm s m as' below meth c s₁ [] 0 0 → p.tables.exec = Jvm.exec → Z.Warmed39 s.vm → c.code = bytes → c.maxLocals = maxL → meth.sig.returnType = ret → meth.locks = false → s.vm.findClass y.cls = some m.cls → meth.name = y.name → s₁.heap = h0 →
      Go p.tables e below (FinP s Q rm.cells rm.slots) s₁ (entryFrame m as' maxL)) : Con l Z y bytes maxL ret ws rm as' h0 Q := by
  refine MetFree.of_bodySF hp hisR ?_
  intro p e s m args below meth c s₁ Bd hml0 hP hK
  obtain ⟨rfl, hZ, hh⟩ := hP
  exact H p e s m below meth c s₁ (Stand.of_body Bd) Bd.exec hZ Bd.bytes hml0 Bd.returns Bd.notSynchronized (findClass_of_methodNamed Bd.named) (name_of_methodNamed Bd.named Bd.method).1 (by rw [← hh, Bd.state]; rfl)
theorem Con.mono {y : MethodName} {bytes : ByteArray} {maxL : Nat} {ret : Option FieldType} {ws : List Cond} {rm : Room} {as' : Array Value} {h0 : Heap} {Q Q' : Option Value → Heap → List Loc → Prop} (C : Con l Z y bytes maxL ret ws rm as' h0 Q) (H : ∀ v h L, Q v h L → Q' v h L) : Con l Z y bytes maxL ret ws rm as' h0 Q' := by
  intro p e ha hc hk s m args below hf happ hP hK
  obtain ⟨n, o, h1, h2, h3, v, L, rfl, hq, hr⟩ := C p e ha hc hk s m args below hf happ hP hK
  exact ⟨n, _, h1, h2, h3, v, L, rfl, H _ _ _ hq, hr⟩
variable {y z : MethodName} {bytes : ByteArray} {maxL : Nat} {ret : Option FieldType} {rm : Room} {as' : Array Value} {Q : Option Value → Heap → List Loc → Prop} {W len : Nat} {own C owner : String} {index : Nat} {argsL rest : List Value}
/-- behind a call -/
theorem Go.back {vs : Array Value} {vm1 : Vm → Pt} {n : Nat} (H : ∃ (v : Option Value) (vm₁ : Vm) (B : Pt), s.WarmedH vm₁ ∧ Stand p l e R s m args below meth c B.U B.locs B.cells B.slots ∧ (∃ L, Q v B.U.heap L ∧ B.locs = locs ++ L ∧ B.cells = cells + rm.cells ∧ B.slots = slots + rm.slots) ∧
      Steps p.tables e below (T.setTop g) (B.U.setTop { g with pc := g.pc + n, stack := v.toList ++ rest }))
    (k : ∀ (v : Option Value) (T' : State) (h' : Heap) (L : List Loc), Stand p l e R s m args below meth c T' (locs ++ L) (cells + rm.cells) (slots + rm.slots) → T'.heap = h' → Q v h' L → Go p.tables e below P T' { g with pc := g.pc + n, stack := v.toList ++ rest }) : Go p.tables e below P T g := by
  obtain ⟨v, _, ⟨U, L1, k1, n1⟩, -, X', ⟨L, hQ, e1, e2, e3⟩, st⟩ := H
  have e1' : L1 = locs ++ L := e1
  have e2' : k1 = cells + rm.cells := e2
  have e3' : n1 = slots + rm.slots := e3
  subst e1' e2' e3'
  exact Go.tr st (k v U _ L X' rfl hQ)
theorem Go.callSt (X : Stand p l e R s m args below meth c T locs cells slots) (hx : p.tables.exec = Jvm.exec) (hZ : Z.Warmed39 s.vm) (hown : s.vm.findClass own = some m.cls) (eT : T.heap = h)
    (w1 : (Cond.methodLink own index y).before a0 Z = true) (w2 : (Cond.static y).before a0 Z = true) (w3 : (Cond.initialized y.cls).before a0 Z = true) (w4 : (Cond.code y bytes maxL ret).before a0 Z = true) (hy : y.cls ≠ "java/lang/invoke/MethodHandle" ∧ y.cls ≠ "java/lang/invoke/VarHandle")
    (hM : Con l Z y bytes maxL ret [] rm as' h Q) (ha : argsL.toArray = as') (hlen : ∀ sig, parseMethodDescriptor y.desc = some sig → argsL.length = sig.parameters.length) (hg : g.method = m) (hsize : g.locals.size = c.maxLocals) (hst : g.stack = argsL.reverse ++ rest)
    (hW : 2 * g.monitorRoom + (rest.map fun v => v.category).sum ≤ W) (hf : rm.frames + 1 ≤ R.frames) (hl : W + (maxL + 11) + rm.locals ≤ R.locals) (hc : cells + rm.cells ≤ R.cells) (hs : slots + rm.slots ≤ R.slots) (hd : decode c.code g.pc = .ok (.invokestatic index, 3))
    (k : ∀ (v : Option Value) (T' : State) (h' : Heap) (L : List Loc), Stand p l e R s m args below meth c T' (locs ++ L) (cells + rm.cells) (slots + rm.slots) → T'.heap = h' → Q v h' L → Go p.tables e below P T' { g with pc := g.pc + 3, stack := v.toList ++ rest }) : Go p.tables e below P T g := by
  obtain ⟨v, vm₁, B, q1, q2, q3, q4⟩ := Jvm.LawKit.callS X hx (y := y) (bytes := bytes) (maxL := maxL) (ret := ret) hown (mvT hZ w1) (mvT hZ w2) (mvT hZ w3) (mvT hZ w4) hy (backOf (W := W) (a0 := a0) hM hZ w4 w3 hf hl) (g := g) hg hsize (argsL := argsL) (rest := rest) hlen hst hW hd (fun _ _ => ⟨ha, eT, hc, hs⟩)
  exact Go.back (vs := as') (vm1 := fun _ => ⟨T, [], 0, 0⟩) ⟨v, vm₁, B, q1, q2, q3, q4 _ (Steps.refl _)⟩ k
theorem Go.callSp (X : Stand p l e R s m args below meth c T locs cells slots) (hx : p.tables.exec = Jvm.exec) (hZ : Z.Warmed39 s.vm) (hown : s.vm.findClass own = some m.cls) (eT : T.heap = h) (hy1 : y.name = "<init>")
    (w1 : (Cond.methodLink own index y).before a0 Z = true) (w2 : (Cond.instanceMethod y).before a0 Z = true) (w3 : (Cond.initialized y.cls).before a0 Z = true) (w4 : (Cond.code y bytes maxL none).before a0 Z = true) (hy : y.cls ≠ "java/lang/invoke/MethodHandle" ∧ y.cls ≠ "java/lang/invoke/VarHandle")
    {a : Addr} (hM : Con l Z y bytes maxL none [] rm as' h Q) (ha : (Value.ref a :: argsL).toArray = as') (hlen : ∀ sig, parseMethodDescriptor y.desc = some sig → argsL.length = sig.parameters.length) (hg : g.method = m) (hsize : g.locals.size = c.maxLocals) (hst : g.stack = argsL.reverse ++ .ref a :: rest)
    (hW : 2 * g.monitorRoom + (rest.map fun v => v.category).sum ≤ W) (hf : rm.frames + 1 ≤ R.frames) (hl : W + (maxL + 11) + rm.locals ≤ R.locals) (hc : cells + rm.cells ≤ R.cells) (hs : slots + rm.slots ≤ R.slots) (hd : decode c.code g.pc = .ok (.invokespecial index, 3))
    (k : ∀ (v : Option Value) (T' : State) (h' : Heap) (L : List Loc), Stand p l e R s m args below meth c T' (locs ++ L) (cells + rm.cells) (slots + rm.slots) → T'.heap = h' → Q v h' L → Go p.tables e below P T' { g with pc := g.pc + 3, stack := v.toList ++ rest }) : Go p.tables e below P T g := by
  exact Go.back (vs := as') (vm1 := fun _ => ⟨T, [], 0, 0⟩) (X.specialBack hx (y := y) hy1 hown (mvT hZ w1) (mvT hZ w2) (mvT hZ w4) hy (backOf (W := W) (a0 := a0) hM hZ w4 w3 hf hl) (g := g) hg hsize (Steps.refl _) (a := a) (argsL := argsL) (rest := rest) hlen hst hW hd (fun _ _ => ⟨ha, eT, hc, hs⟩)) k
theorem Go.callV (X : Stand p l e R s m args below meth c T locs cells slots) (hx : p.tables.exec = Jvm.exec) (hZ : Z.Warmed39 s.vm) (hown : s.vm.findClass own = some m.cls) (eT : T.heap = h)
    (w1 : (Cond.methodLink own index y).before a0 Z = true) (w2 : (Cond.declares y).before a0 Z = true) (w5 : (Cond.selects C y z).before a0 Z = true) (w6 : (Cond.instanceMethod z).before a0 Z = true) (w3 : (Cond.initialized z.cls).before a0 Z = true) (w4 : (Cond.code z bytes maxL ret).before a0 Z = true)
    (hnf : NotFace s y) (hy : y.cls ≠ "java/lang/invoke/MethodHandle" ∧ y.cls ≠ "java/lang/invoke/VarHandle")
    {a : Addr} (E : Exa Z h a C) (hM : Con l Z z bytes maxL ret [] rm as' h Q) (ha : (Value.ref a :: argsL).toArray = as') (hlen : ∀ sig, parseMethodDescriptor y.desc = some sig → argsL.length = sig.parameters.length) (hg : g.method = m) (hsize : g.locals.size = c.maxLocals) (hst : g.stack = argsL.reverse ++ .ref a :: rest)
    (hW : 2 * g.monitorRoom + (rest.map fun v => v.category).sum ≤ W) (hf : rm.frames + 1 ≤ R.frames) (hl : W + (maxL + 11) + rm.locals ≤ R.locals) (hc : cells + rm.cells ≤ R.cells) (hs : slots + rm.slots ≤ R.slots) (hd : decode c.code g.pc = .ok (.invokevirtual index, 3))
    (k : ∀ (v : Option Value) (T' : State) (h' : Heap) (L : List Loc), Stand p l e R s m args below meth c T' (locs ++ L) (cells + rm.cells) (slots + rm.slots) → T'.heap = h' → Q v h' L → Go p.tables e below P T' { g with pc := g.pc + 3, stack := v.toList ++ rest }) : Go p.tables e below P T g := by
  obtain ⟨cq, kq, qa, qb, qc⟩ := isOf hZ eT E
  exact Go.back (vs := as') (vm1 := fun _ => ⟨T, [], 0, 0⟩) (X.virtualBack hx (y := y) (z := z) hown (mvT hZ w1) (mvT hZ w2) hnf (mvT hZ w5) (mvT hZ w6) hy (backOf (W := W) (a0 := a0) hM hZ w4 w3 hf hl) qa qc (g := g) hg hsize (Steps.refl _) (argsL := argsL) (rest := rest) hlen hst hW hd (fun _ _ => ⟨ha, eT, hc, hs⟩)) k
theorem Go.callUp (X : Stand p l e R s m args below meth c T locs cells slots) (hx : p.tables.exec = Jvm.exec) (hZ : Z.Warmed39 s.vm) (hown : s.vm.findClass own = some m.cls) (eT : T.heap = h)
    (w1 : (Cond.methodLink own index y).before a0 Z = true) (w2 : (Cond.sameMethod y.cls owner y.name y.desc).before a0 Z = true) (w7 : (Cond.declares ⟨owner, y.name, y.desc⟩).before a0 Z = true) (hy : owner ≠ "java/lang/invoke/MethodHandle" ∧ owner ≠ "java/lang/invoke/VarHandle")
    (w5 : (Cond.selects C y z).before a0 Z = true) (w6 : (Cond.instanceMethod z).before a0 Z = true) (w3 : (Cond.initialized z.cls).before a0 Z = true) (w4 : (Cond.code z bytes maxL ret).before a0 Z = true)
    {a : Addr} (E : Exa Z h a C) (hM : Con l Z z bytes maxL ret [] rm as' h Q) (ha : (Value.ref a :: argsL).toArray = as') (hlen : ∀ sig, parseMethodDescriptor y.desc = some sig → argsL.length = sig.parameters.length) (hg : g.method = m) (hsize : g.locals.size = c.maxLocals) (hst : g.stack = argsL.reverse ++ .ref a :: rest)
    (hW : 2 * g.monitorRoom + (rest.map fun v => v.category).sum ≤ W) (hf : rm.frames + 1 ≤ R.frames) (hl : W + (maxL + 11) + rm.locals ≤ R.locals) (hc : cells + rm.cells ≤ R.cells) (hs : slots + rm.slots ≤ R.slots) (hd : decode c.code g.pc = .ok (.invokevirtual index, 3))
    (k : ∀ (v : Option Value) (T' : State) (h' : Heap) (L : List Loc), Stand p l e R s m args below meth c T' (locs ++ L) (cells + rm.cells) (slots + rm.slots) → T'.heap = h' → Q v h' L → Go p.tables e below P T' { g with pc := g.pc + 3, stack := v.toList ++ rest }) : Go p.tables e below P T g := by
  obtain ⟨cq, kq, qa, qb, qc⟩ := isOf hZ eT E
  exact Go.back (vs := as') (vm1 := fun _ => ⟨T, [], 0, 0⟩) (X.virtualBackUp hx (x := y) (y := z) hown (mvT hZ w1) (mvT hZ w2) (mvT hZ w7) hy (mvT hZ w5) (mvT hZ w6) (backOf (W := W) (a0 := a0) hM hZ w4 w3 hf hl) qa qc (g := g) hg hsize (Steps.refl _) (argsL := argsL) (rest := rest) hlen hst hW hd (fun _ _ => ⟨ha, eT, hc, hs⟩)) k
theorem ldCV (X : Stand p l e R s m args below meth c T locs cells slots) (hx : p.tables.exec = Jvm.exec) (hZ : Z.Warmed39 s.vm) (eT : T.heap = h) {a : Addr} {k : ClassId} {z : Int32} {vs : List Value} {d : Value} (F : Arv Z h a k .char z vs d) {j : Int32} (hj : ¬ j < 0 ∧ j < z) {v : Value} (hv : vs.getD j.toNatClampNeg d = v) {g : JFrame} (hg : g.method = m) {rest : List Value} (hs : g.stack = .int j :: .ref a :: rest) (hd : decode c.code g.pc = .ok (.caload, 1)) {target : State}
    (kk : Steps p.tables e below (T.setTop { g with pc := g.pc + 1, stack := v :: rest }) target) : Steps p.tables e below (T.setTop g) target := by
  obtain ⟨cl, A, q1, S, q3, H, G⟩ := F
  exact X.caload hx (j := j) (v := v) (by rw [eT]; exact A.1) (State.isArrayOf_alike hZ.alike A.2.1) A.2.2 (inb_of S hj) (H.at (inb_of S hj) hv) hg hs hd _ kk
theorem ldBV (X : Stand p l e R s m args below meth c T locs cells slots) (hx : p.tables.exec = Jvm.exec) (hZ : Z.Warmed39 s.vm) (eT : T.heap = h) {a : Addr} {k : ClassId} {z : Int32} {vs : List Value} {d : Value} (F : Arv Z h a k .byte z vs d) {j : Int32} (hj : ¬ j < 0 ∧ j < z) {v : Value} (hv : vs.getD j.toNatClampNeg d = v) {g : JFrame} (hg : g.method = m) {rest : List Value} (hs : g.stack = .int j :: .ref a :: rest) (hd : decode c.code g.pc = .ok (.baload, 1)) {target : State}
    (kk : Steps p.tables e below (T.setTop { g with pc := g.pc + 1, stack := v :: rest }) target) : Steps p.tables e below (T.setTop g) target := by
  obtain ⟨cl, A, q1, S, q3, H, G⟩ := F
  exact X.baloadBytes hx (j := j) (v := v) (by rw [eT]; exact A.1) (State.isArrayOf_alike hZ.alike A.2.1) A.2.2 (inb_of S hj) (H.at (inb_of S hj) hv) hg hs hd _ kk
theorem ldIV (X : Stand p l e R s m args below meth c T locs cells slots) (hx : p.tables.exec = Jvm.exec) (hZ : Z.Warmed39 s.vm) (eT : T.heap = h) {a : Addr} {k : ClassId} {z : Int32} {vs : List Value} {d : Value} (F : Arv Z h a k .int z vs d) {j : Int32} (hj : ¬ j < 0 ∧ j < z) {v : Value} (hv : vs.getD j.toNatClampNeg d = v) {g : JFrame} (hg : g.method = m) {rest : List Value} (hs : g.stack = .int j :: .ref a :: rest) (hd : decode c.code g.pc = .ok (.iaload, 1)) {target : State}
    (kk : Steps p.tables e below (T.setTop { g with pc := g.pc + 1, stack := v :: rest }) target) : Steps p.tables e below (T.setTop g) target := by
  obtain ⟨cl, A, q1, S, q3, H, G⟩ := F
  exact X.iaload hx (j := j) (v := v) (by rw [eT]; exact A.1) (State.isArrayOf_alike hZ.alike A.2.1) A.2.2 (inb_of S hj) (H.at (inb_of S hj) hv) hg hs hd _ kk
theorem ldRV (X : Stand p l e R s m args below meth c T locs cells slots) (hx : p.tables.exec = Jvm.exec) (hZ : Z.Warmed39 s.vm) (eT : T.heap = h) {a : Addr} {k : ClassId} {C : String} {z : Int32} {vs : List Value} {d : Value} (F : Arv Z h a k (.object C) z vs d) {j : Int32} (hj : ¬ j < 0 ∧ j < z) {v : Value} (hv : vs.getD j.toNatClampNeg d = v) {g : JFrame} (hg : g.method = m) {rest : List Value} (hs : g.stack = .int j :: .ref a :: rest) (hd : decode c.code g.pc = .ok (.aaload, 1)) {target : State}
    (kk : Steps p.tables e below (T.setTop { g with pc := g.pc + 1, stack := v :: rest }) target) : Steps p.tables e below (T.setTop g) target := by
  obtain ⟨cl, A, q1, S, q3, H, G⟩ := F
  exact X.aaload hx (j := j) (v := v) (by rw [eT]; exact A.1) (State.isArrayOf_alike hZ.alike A.2.1) rfl A.2.2 (inb_of S hj) (H.at (inb_of S hj) hv) hg hs hd _ kk
theorem lenV (X : Stand p l e R s m args below meth c T locs cells slots) (hx : p.tables.exec = Jvm.exec) (hZ : Z.Warmed39 s.vm) (eT : T.heap = h) {a : Addr} {k : ClassId} {ty : FieldType} {z : Int32} {vs : List Value} {d : Value} (F : Arv Z h a k ty z vs d) {g : JFrame} (hg : g.method = m) {rest : List Value} (hs : g.stack = .ref a :: rest) (hd : decode c.code g.pc = .ok (.arraylength, 1)) {target : State}
    (kk : Steps p.tables e below (T.setTop { g with pc := g.pc + 1, stack := .int z :: rest }) target) : Steps p.tables e below (T.setTop g) target := by
  obtain ⟨cl, A, q1, S, q3, H, G⟩ := F
  refine X.arraylength hx (by rw [eT]; exact A.1) (State.isArrayOf_alike hZ.alike A.2.1) hg hs hd _ ?_
  rw [len_of S q3]; exact kk
theorem stCV (X : Stand p l e R s m args below meth c T locs cells slots) (hx : p.tables.exec = Jvm.exec) (hZ : Z.Warmed39 s.vm) (eT : T.heap = h) {a : Addr} {k : ClassId} {z : Int32} {vs : List Value} {d : Value} (F : Arv Z h a k .char z vs d) {j x : Int32} {i : Nat} (hj : ¬ j < 0 ∧ j < z) (hi : j.toNatClampNeg = i) (hl : i < vs.length) {g : JFrame} (hg : g.method = m) {rest : List Value} (hs : g.stack = .int x :: .int j :: .ref a :: rest) (hd : decode c.code g.pc = .ok (.castore, 1)) :
    ∃ T' h', Stand p l e R s m args below meth c T' (locs ++ [⟨a, j.toNatClampNeg⟩]) cells slots ∧ T'.heap = h' ∧ Wr h h' a j.toNatClampNeg (.int (nar .char x)) ∧ Arv Z h' a k .char z (vs.set i (.int (nar .char x))) d ∧ ∀ target, Steps p.tables e below (T'.setTop { g with pc := g.pc + 1, stack := rest }) target → Steps p.tables e below (T.setTop g) target := by
  obtain ⟨cl, A, q1, S, q3, H, G⟩ := F
  obtain ⟨T', h', X', e', W, st⟩ := stC X hx hZ eT A (inb_of S hj) hg hs hd
  exact ⟨T', h', X', e', W, Arv.set A q1 S q3 H G (fits_nar_char _) W i hi hl, st⟩
theorem stBV (X : Stand p l e R s m args below meth c T locs cells slots) (hx : p.tables.exec = Jvm.exec) (hZ : Z.Warmed39 s.vm) (eT : T.heap = h) {a : Addr} {k : ClassId} {z : Int32} {vs : List Value} {d : Value} (F : Arv Z h a k .byte z vs d) {j x : Int32} {i : Nat} (hj : ¬ j < 0 ∧ j < z) (hi : j.toNatClampNeg = i) (hl : i < vs.length) {g : JFrame} (hg : g.method = m) {rest : List Value} (hs : g.stack = .int x :: .int j :: .ref a :: rest) (hd : decode c.code g.pc = .ok (.bastore, 1)) :
    ∃ T' h', Stand p l e R s m args below meth c T' (locs ++ [⟨a, j.toNatClampNeg⟩]) cells slots ∧ T'.heap = h' ∧ Wr h h' a j.toNatClampNeg (.int (nar .byte x)) ∧ Arv Z h' a k .byte z (vs.set i (.int (nar .byte x))) d ∧ ∀ target, Steps p.tables e below (T'.setTop { g with pc := g.pc + 1, stack := rest }) target → Steps p.tables e below (T.setTop g) target := by
  obtain ⟨cl, A, q1, S, q3, H, G⟩ := F
  obtain ⟨T', h', X', e', W, st⟩ := stB X hx hZ eT A (inb_of S hj) hg hs hd
  exact ⟨T', h', X', e', W, Arv.set A q1 S q3 H G (fits_nar_byte _) W i hi hl, st⟩
theorem eqv_r {Z : State} {args : Array Value} {X F : Term} {idx : List Nat} {y : Addr} (hF : F.eval args Z none idx Z = some (.ref y)) (h : (Cond.eq X F).value args Z none Z idx = some true) : X.eval args Z none idx Z = some (.ref y) := by
  cases hX : X.eval args Z none idx Z with
  | none => simp [Cond.value, hX] at h
  | some v => cases v <;> simp [Cond.value, hX, hF] at h ⊢; exact h
theorem Arv.startL {Z : State} {args : Array Value} {t : Term} {a : Addr} {ty : FieldType} {z : Int32} {vs : List Value} {dv : Value} (hf : Fit Z) (et : t.eval args Z none [] Z = some (.ref a)) (ha : (Cond.arrayOf t ty).value args Z none Z [] = some true) (hl : (Cond.eq (.length t) (.int z)).value args Z none Z [] = some true)
    (hz : ¬ z < 0) (hn : z.toNatClampNeg = vs.length) (H : ∀ c, Z.heap[a]? = some c → HasL c 0 vs) : ∃ k, Arv Z Z.heap a k ty z vs dv := by
  obtain ⟨c, A⟩ := Arr.start et ha
  obtain ⟨b, cell, e1, e2, e3, e4⟩ := Jvm.Lib.length_spec (eqv_i rfl hl)
  cases et.symm.trans e1
  cases (A.fin (Vm.Alike.refl _)).symm.trans e2
  exact ⟨c.cls, Arv.start hf A e3 (Value.int.inj e4).symm hz hn (H c A.1)⟩
theorem Keep.toExt (K : Keep h h' []) : Ext h h' := ⟨K.1, fun a c q => K.2.1 a c q (fun z => nomatch z)⟩
theorem Ext.toKeep (E : Ext h h') : Keep h h' [] := ⟨E.1, fun a c q _ => E.2 a c q, fun a c q => ⟨c, E.2 a c q, rfl, rfl, rfl⟩⟩
theorem Ext.refl (h : Heap) : Ext h h := ⟨Nat.le_refl _, fun _ _ q => q⟩
theorem Ext.tr {h2 : Heap} (A : Ext h h') (B : Ext h' h2) : Ext h h2 := ⟨Nat.le_trans A.1 B.1, fun a c q => B.2 a c (A.2 a c q)⟩
theorem Ext.thenK {h2 : Heap} {ws : List Addr} (A : Ext h h') (K : Keep h' h2 ws) (q : ∀ x ∈ ws, h.size ≤ x) : Ext h h2 := (A.toKeep.trans K fun x hx => Or.inr (q x hx)).toExt
theorem Ext.thenW {h2 : Heap} {a : Addr} {sl : Nat} {v : Value} (A : Ext h h') (W : Wr h' h2 a sl v) (q : h.size ≤ a) : Ext h h2 := (A.toKeep.wr W (Or.inr q)).toExt
theorem i2c_id {x : Int32} (h : 0 ≤ x.toInt ∧ x.toInt < 65536) : x.toUInt32.toUInt16.toUInt32.toInt32 = x := by
  have q := c_i2c x
  exact Int32.toInt_inj.mp (by omega)
theorem i2b_id {x : Int32} (h : -128 ≤ x.toInt ∧ x.toInt < 128) : x.toInt8.toInt32 = x := by
  have q := c_i2b x
  exact Int32.toInt_inj.mp (by omega)
theorem nar_b {x : Int32} : nar .byte (x.toInt8.toInt32) = x.toInt8.toInt32 := i2b_id (c_i2b x).2
theorem nar_c {x : Int32} : nar .char (x.toUInt32.toUInt16.toUInt32.toInt32) = x.toUInt32.toUInt16.toUInt32.toInt32 := i2c_id (c_i2c x).2
theorem nar_cid {x : Int32} (h : 0 ≤ x.toInt ∧ x.toInt < 65536) : nar .char x = x := i2c_id h
theorem and255 (x : Int32) : 0 ≤ ((x &&& 255).toUInt32.toUInt16.toUInt32.toInt32).toInt ∧ ((x &&& 255).toUInt32.toUInt16.toUInt32.toInt32).toInt ≤ 255 := by
  have h := c_mask x 255 8 (by decide) (by decide)
  have q := c_i2c (x &&& 255)
  omega
theorem le255 {x : Int32} (h : 0 ≤ x.toInt ∧ x.toInt ≤ 255) : ¬ (255 : Int32) < x := by rw [Int32.lt_iff_toInt_lt]; have : (255 : Int32).toInt = 255 := rfl; omega
theorem ne_lt {x b i j : Nat} (h1 : x < i) (h2 : i ≤ j) (h3 : j ≤ b) : x ≠ b := by omega
theorem own_add0 (n : Nat) : n + 0 = n := rfl
end OwnGo
end Jvm.RoadKit
namespace Jvm.Pilot.@@N@@
open Jvm Jvm.ClassFile Sem Op Lib Jvm.Free Jvm.Stand Jvm.LawKit Jvm.RoadKit Bundle Jvm.Pilot.@@N@@.Jvm.D
theorem d2_0 : decode prog_5_method_1_code 0 = .ok (.getstatic 10, 3) := by decide +kernel
theorem w7 {a0 : Array Value} {Z : State} (hw : ∀ d ∈ tables_1, d.before a0 Z = true) : ((Jvm.Cond.fieldLink "com/example/tierbook/tierbook/cli/Flag" (10 : Nat) "com/example/tierbook/tierbook/cli/Flag" "$VALUES" "[Lcom/example/tierbook/tierbook/cli/Flag;")).before a0 Z = true := hw _ (List.mem_of_getElem? (i := 7) rfl)
theorem w9 {a0 : Array Value} {Z : State} (hw : ∀ d ∈ tables_1, d.before a0 Z = true) : ((Jvm.Cond.methodLink "com/example/tierbook/tierbook/cli/Flag" (14 : Nat) ({ cls := "[Lcom/example/tierbook/tierbook/cli/Flag;", name := "clone", desc := "()Ljava/lang/Object;" } : Jvm.MethodName))).before a0 Z = true := hw _ (List.mem_of_getElem? (i := 9) rfl)
theorem w10 {a0 : Array Value} {Z : State} (hw : ∀ d ∈ tables_1, d.before a0 Z = true) : ((Jvm.Cond.sameMethod "[Lcom/example/tierbook/tierbook/cli/Flag;" "java/lang/Object" "clone" "()Ljava/lang/Object;")).before a0 Z = true := hw _ (List.mem_of_getElem? (i := 10) rfl)
theorem w14 {a0 : Array Value} {Z : State} (hw : ∀ d ∈ tables_1, d.before a0 Z = true) : ((Jvm.Cond.native ({ cls := "java/lang/Object", name := "clone", desc := "()Ljava/lang/Object;" } : Jvm.MethodName))).before a0 Z = true := hw _ (List.mem_of_getElem? (i := 14) rfl)
theorem w12 {a0 : Array Value} {Z : State} (hw : ∀ d ∈ tables_1, d.before a0 Z = true) : ((Jvm.Cond.instanceMethod ({ cls := "java/lang/Object", name := "clone", desc := "()Ljava/lang/Object;" } : Jvm.MethodName))).before a0 Z = true := hw _ (List.mem_of_getElem? (i := 12) rfl)
theorem w13 {a0 : Array Value} {Z : State} (hw : ∀ d ∈ tables_1, d.before a0 Z = true) : ((Jvm.Cond.selects "[Lcom/example/tierbook/tierbook/cli/Flag;" ({ cls := "[Lcom/example/tierbook/tierbook/cli/Flag;", name := "clone", desc := "()Ljava/lang/Object;" } : Jvm.MethodName) ({ cls := "java/lang/Object", name := "clone", desc := "()Ljava/lang/Object;" } : Jvm.MethodName))).before a0 Z = true := hw _ (List.mem_of_getElem? (i := 13) rfl)
theorem w15 {a0 : Array Value} {Z : State} (hw : ∀ d ∈ tables_1, d.before a0 Z = true) : ((Jvm.Cond.castable "[Lcom/example/tierbook/tierbook/cli/Flag;" "java/lang/Cloneable")).before a0 Z = true := hw _ (List.mem_of_getElem? (i := 15) rfl)
theorem d2_3 : decode prog_5_method_1_code 3 = .ok (.invokevirtual 14, 3) := by decide +kernel
theorem d2_6 : decode prog_5_method_1_code 6 = .ok (.checkcast 15, 3) := by decide +kernel
theorem w19 {a0 : Array Value} {Z : State} (hw : ∀ d ∈ tables_1, d.before a0 Z = true) : ((Jvm.Cond.classLink "com/example/tierbook/tierbook/cli/Flag" (15 : Nat) "[Lcom/example/tierbook/tierbook/cli/Flag;")).before a0 Z = true := hw _ (List.mem_of_getElem? (i := 19) rfl)
theorem d2_9 : decode prog_5_method_1_code 9 = .ok (.areturn, 1) := by decide +kernel
def rr_values : Room := { frames := 1, cells := 1, slots := 2, locals := 14 }
theorem pn0 : plainName "com/example/tierbook/tierbook/cli/Flag" = true := by first | (simp [plainName, overriddenIn]; done) | decide +kernel
set_option maxRecDepth 65536 in
set_option maxHeartbeats 40000000 in
theorem rm_values (l : Launch) (Z : State) (a0 : Array Value) (hw : ∀ d ∈ tables_1, d.before a0 Z = true) (ws : List Jvm.Cond) (vA hA rA : Addr) (kV : ClassId) (h0 : Heap) (n0 : Nat) (Z0 : n0 ≤ h0.size) (O0 : Old Z n0 h0) (SV : Sta Z Z.heap "com/example/tierbook/tierbook/cli/Flag" "$VALUES" "[Lcom/example/tierbook/tierbook/cli/Flag;" (.ref vA)) (EV : Exa Z Z.heap vA "[Lcom/example/tierbook/tierbook/cli/Flag;") (FV : Arv Z Z.heap vA kV (.object "com/example/tierbook/tierbook/cli/Flag") 2 [.ref hA, .ref rA] .null) :
    Con l Z (⟨"com/example/tierbook/tierbook/cli/Flag", "values", "()[Lcom/example/tierbook/tierbook/cli/Flag;"⟩ : MethodName) prog_5_method_1_code 0 (some (.array (.object "com/example/tierbook/tierbook/cli/Flag"))) ws rr_values #[] h0 (fun v h L => ∃ b : Addr, v = some (.ref b) ∧ Fr n0 L ∧ Ext h0 h ∧ h0.size ≤ b ∧ Arv Z h b kV (.object "com/example/tierbook/tierbook/cli/Flag") 2 [.ref hA, .ref rA] .null) := by
  refine Con.enter (plainFor_of_name pn0) ?_
  intro p e s m below meth c s₁ X0 hx hZ hby hml hret hlk hown hnm e0
  have N0 := Fr.nil n0
  refine Go.cast (g' := (mkF m 0 #[] [])) (by first | rfl | (simp [entryFrame, mkF, argsToLocals, Value.category]; done)) ?_
  obtain ⟨T1, X1, e1, st1⟩ := getS2 X0 hx hZ hown (host := "") (Or.inl (w7 hw)) Via.refl e0 (SV.ext O0.2) (g := (mkF m 0 #[] [])) rfl (hb hby d2_0)
  refine Go.st (T' := T1) (g' := (mkF m 3 #[] [(.ref vA)])) (fun _ zk => st1 _ zk) ?_
  obtain ⟨T2, h2, X2, e2, E2, V2, A2, st2⟩ := cloneH X1 hx hZ hown (w9 hw) (w10 hw) (w14 hw) (w12 hw) (w13 hw) (w15 hw) e1 (FV.ext O0.2).arh (EV.ext O0.2) (g := (mkF m 3 #[] [(.ref vA)])) rfl (by rw [hml]; rfl) rfl (hb hby d2_3) (by decide) (W := 0) (by show 2 * 0 + _ ≤ _; exact Nat.le_of_eq rfl) (by decide) (cap := 2) (by decide) (by decide) (by decide)
  obtain ⟨b2, g2⟩ : ∃ z, z = h0.size := ⟨_, rfl⟩
  rw [← g2] at A2 V2 st2
  have V2' : Arv Z h2 b2 kV (.object "com/example/tierbook/tierbook/cli/Flag") 2 [.ref hA, .ref rA] .null := V2
  refine Go.st (T' := T2) (g' := (mkF m 6 #[] [(.ref b2)])) (fun _ zk => st2 _ zk) ?_
  obtain ⟨T3, X3, e3, st3⟩ := castY X2 hx hZ hown (w19 hw) e2 (Ins.self A2) (g := (mkF m 6 #[] [(.ref b2)])) rfl rfl (hb hby d2_6)
  refine Go.st (T' := T3) (g' := (mkF m 9 #[] [(.ref b2)])) (fun _ zk => st3 _ zk) ?_
  have x4 : Ext h0 h2 := E2
  refine Go.retA X3 hx hlk hret rfl rfl (hb hby d2_9) (by decide) (by decide) e3 ?_
  exact ⟨_, rfl, N0, x4, (Nat.le_trans (Nat.le_refl _) (Nat.le_of_eq g2.symm)), V2'⟩
theorem w6 {a0 : Array Value} {Z : State} (hw : ∀ d ∈ tables_1, d.before a0 Z = true) : ((Jvm.Cond.code ({ cls := "com/example/tierbook/tierbook/cli/Flag", name := "values", desc := "()[Lcom/example/tierbook/tierbook/cli/Flag;" } : Jvm.MethodName) prog_5_method_1_code (0 : Nat) (Option.some (Jvm.ClassFile.FieldType.array (Jvm.ClassFile.FieldType.object "com/example/tierbook/tierbook/cli/Flag"))))).before a0 Z = true := hw _ (List.mem_of_getElem? (i := 6) rfl)
theorem w2 {a0 : Array Value} {Z : State} (hw : ∀ d ∈ tables_1, d.before a0 Z = true) : ((Jvm.Cond.initialized "com/example/tierbook/tierbook/cli/Flag")).before a0 Z = true := hw _ (List.mem_of_getElem? (i := 2) rfl)
theorem pd1 : parseMethodDescriptor "()[Lcom/example/tierbook/tierbook/cli/Flag;" = some ⟨[], some (.array (.object "com/example/tierbook/tierbook/cli/Flag"))⟩ := by decide +kernel
theorem d1_0 : decode prog_5_method_5_code 0 = .ok (.invokestatic 40, 3) := by decide +kernel
theorem w4 {a0 : Array Value} {Z : State} (hw : ∀ d ∈ tables_1, d.before a0 Z = true) : ((Jvm.Cond.methodLink "com/example/tierbook/tierbook/cli/Flag" (40 : Nat) ({ cls := "com/example/tierbook/tierbook/cli/Flag", name := "values", desc := "()[Lcom/example/tierbook/tierbook/cli/Flag;" } : Jvm.MethodName))).before a0 Z = true := hw _ (List.mem_of_getElem? (i := 4) rfl)
theorem w5 {a0 : Array Value} {Z : State} (hw : ∀ d ∈ tables_1, d.before a0 Z = true) : ((Jvm.Cond.static ({ cls := "com/example/tierbook/tierbook/cli/Flag", name := "values", desc := "()[Lcom/example/tierbook/tierbook/cli/Flag;" } : Jvm.MethodName))).before a0 Z = true := hw _ (List.mem_of_getElem? (i := 5) rfl)
theorem d1_3 : decode prog_5_method_5_code 3 = .ok (.astore_n 1, 1) := by decide +kernel
theorem d1_4 : decode prog_5_method_5_code 4 = .ok (.aload_n 1, 1) := by decide +kernel
theorem d1_5 : decode prog_5_method_5_code 5 = .ok (.arraylength, 1) := by decide +kernel
theorem d1_6 : decode prog_5_method_5_code 6 = .ok (.istore_n 2, 1) := by decide +kernel
theorem d1_7 : decode prog_5_method_5_code 7 = .ok (.iconst 0, 1) := by decide +kernel
theorem d1_8 : decode prog_5_method_5_code 8 = .ok (.istore_n 3, 1) := by decide +kernel
theorem d1_9 : decode prog_5_method_5_code 9 = .ok (.iload_n 3, 1) := by decide +kernel
theorem d1_10 : decode prog_5_method_5_code 10 = .ok (.iload_n 2, 1) := by decide +kernel
theorem d1_11 : decode prog_5_method_5_code 11 = .ok (.if_icmp .ge 26, 3) := by decide +kernel
theorem d1_14 : decode prog_5_method_5_code 14 = .ok (.aload_n 1, 1) := by decide +kernel
theorem d1_15 : decode prog_5_method_5_code 15 = .ok (.iload_n 3, 1) := by decide +kernel
theorem d1_16 : decode prog_5_method_5_code 16 = .ok (.aaload, 1) := by decide +kernel
theorem d1_17 : decode prog_5_method_5_code 17 = .ok (.astore 4, 2) := by decide +kernel
theorem d1_19 : decode prog_5_method_5_code 19 = .ok (.iload_n 0, 1) := by decide +kernel
theorem d1_20 : decode prog_5_method_5_code 20 = .ok (.aload 4, 2) := by decide +kernel
theorem d1_22 : decode prog_5_method_5_code 22 = .ok (.getfield 29, 3) := by decide +kernel
theorem w21 {a0 : Array Value} {Z : State} (hw : ∀ d ∈ tables_1, d.before a0 Z = true) : ((Jvm.Cond.fieldLink "com/example/tierbook/tierbook/cli/Flag" (29 : Nat) "com/example/tierbook/tierbook/cli/Flag" "letter" "C")).before a0 Z = true := hw _ (List.mem_of_getElem? (i := 21) rfl)
theorem d1_25 : decode prog_5_method_5_code 25 = .ok (.if_icmp .ne 6, 3) := by decide +kernel
theorem d1_28 : decode prog_5_method_5_code 28 = .ok (.aload 4, 2) := by decide +kernel
theorem d1_30 : decode prog_5_method_5_code 30 = .ok (.areturn, 1) := by decide +kernel
theorem d1_31 : decode prog_5_method_5_code 31 = .ok (.iinc 3 1, 3) := by decide +kernel
theorem d1_34 : decode prog_5_method_5_code 34 = .ok (.goto (-25), 3) := by decide +kernel
theorem d1_37 : decode prog_5_method_5_code 37 = .ok (.aconst_null, 1) := by decide +kernel
theorem d1_38 : decode prog_5_method_5_code 38 = .ok (.areturn, 1) := by decide +kernel
def rr_ofLetter : Room := { frames := 2, cells := 1, slots := 2, locals := 25 }
set_option maxRecDepth 65536 in
set_option maxHeartbeats 40000000 in
theorem rm_ofLetter (l : Launch) (Z : State) (a0 : Array Value) (hw : ∀ d ∈ tables_1, d.before a0 Z = true) (ws : List Jvm.Cond) (c0 : Int32) (vA hA rA : Addr) (kV : ClassId) (h0 : Heap) (n0 : Nat) (Z0 : n0 ≤ h0.size) (O0 : Old Z n0 h0) (SV : Sta Z Z.heap "com/example/tierbook/tierbook/cli/Flag" "$VALUES" "[Lcom/example/tierbook/tierbook/cli/Flag;" (.ref vA)) (EV : Exa Z Z.heap vA "[Lcom/example/tierbook/tierbook/cli/Flag;") (FV : Arv Z Z.heap vA kV (.object "com/example/tierbook/tierbook/cli/Flag") 2 [.ref hA, .ref rA] .null) (LH : Fld Z Z.heap hA "com/example/tierbook/tierbook/cli/Flag" "letter" "C" (.int 104)) (LV : Fld Z Z.heap rA "com/example/tierbook/tierbook/cli/Flag" "letter" "C" (.int 86)) :
    Con l Z (⟨"com/example/tierbook/tierbook/cli/Flag", "ofLetter", "(C)Lcom/example/tierbook/tierbook/cli/Flag;"⟩ : MethodName) prog_5_method_5_code 5 (some (.object "com/example/tierbook/tierbook/cli/Flag")) ws rr_ofLetter #[(.int c0)] h0 (fun v h L => v = some (if c0 = 104 then Value.ref hA else if c0 = 86 then Value.ref rA else Value.null) ∧ Fr n0 L ∧ Ext h0 h) := by
  refine Con.enter (plainFor_of_name pn0) ?_
  intro p e s m below meth c s₁ X0 hx hZ hby hml hret hlk hown hnm e0
  have N0 := Fr.nil n0
  refine Go.cast (g' := (mkF m 0 #[.val (.int c0), .unset, .unset, .unset, .unset] [])) (by first | rfl | (simp [entryFrame, mkF, argsToLocals, Value.category]; done)) ?_
  refine Go.callSt (y := (⟨"com/example/tierbook/tierbook/cli/Flag", "values", "()[Lcom/example/tierbook/tierbook/cli/Flag;"⟩ : MethodName)) X0 hx hZ hown e0 (w4 hw) (w5 hw) (w2 hw) (w6 hw) (by decide) (argsL := []) (rest := []) (W := 0) (rm_values l Z a0 hw [] vA hA rA kV h0 n0 Z0 O0 SV EV FV) rfl (lenOf pd1 rfl) rfl (by rw [hml]; rfl) rfl (by show 2 * 0 + _ ≤ _; exact Nat.le_of_eq rfl) (by decide) (by decide) (by decide) (by decide) (hb hby d1_0) ?_
  intro v1 T1 h1 L1 X1 e1 q1
  obtain ⟨b1, hv1, Nf1, E1, ge1, V1⟩ := q1
  subst hv1
  have N1 := Fr.app N0 Nf1
  show Go p.tables e below _ T1 (mkF m 3 #[.val (.int c0), .unset, .unset, .unset, .unset] [(.ref b1)])
  refine Go.st (T' := T1) (g' := (mkF m 4 #[.val (.int c0), .val (.ref b1), .unset, .unset, .unset] [])) (fun _ zk => XS.astoreN X1.here hx rfl (hb hby d1_3) rfl rfl (l' := #[.val (.int c0), .val (.ref b1), .unset, .unset, .unset]) rfl zk) ?_
  refine Go.st (T' := T1) (g' := (mkF m 5 #[.val (.int c0), .val (.ref b1), .unset, .unset, .unset] [(.ref b1)])) (fun _ zk => XS.aloadN X1.here hx rfl (hb hby d1_4) rfl rfl zk) ?_
  refine Go.st (T' := T1) (g' := (mkF m 6 #[.val (.int c0), .val (.ref b1), .unset, .unset, .unset] [(.int (2 : Int32))])) (fun _ zk => lenV X1 hx hZ e1 V1 (g := (mkF m 5 #[.val (.int c0), .val (.ref b1), .unset, .unset, .unset] [(.ref b1)])) rfl (rest := []) rfl (hb hby d1_5) zk) ?_
  refine Go.st (T' := T1) (g' := (mkF m 7 #[.val (.int c0), .val (.ref b1), .val (.int (2 : Int32)), .unset, .unset] [])) (fun _ zk => XS.istoreN X1.here hx rfl (hb hby d1_6) rfl (l' := #[.val (.int c0), .val (.ref b1), .val (.int (2 : Int32)), .unset, .unset]) rfl zk) ?_
  refine Go.st (T' := T1) (g' := (mkF m 8 #[.val (.int c0), .val (.ref b1), .val (.int (2 : Int32)), .unset, .unset] [(.int (0 : Int32))])) (fun _ zk => XS.iconst X1.here hx rfl (hb hby d1_7) zk) ?_
  refine Go.st (T' := T1) (g' := (mkF m 9 #[.val (.int c0), .val (.ref b1), .val (.int (2 : Int32)), .val (.int (0 : Int32)), .unset] [])) (fun _ zk => XS.istoreN X1.here hx rfl (hb hby d1_8) rfl (l' := #[.val (.int c0), .val (.ref b1), .val (.int (2 : Int32)), .val (.int (0 : Int32)), .unset]) rfl zk) ?_
  refine Go.st (T' := T1) (g' := (mkF m 10 #[.val (.int c0), .val (.ref b1), .val (.int (2 : Int32)), .val (.int (0 : Int32)), .unset] [(.int (0 : Int32))])) (fun _ zk => XS.iloadN X1.here hx rfl (hb hby d1_9) rfl zk) ?_
  refine Go.st (T' := T1) (g' := (mkF m 11 #[.val (.int c0), .val (.ref b1), .val (.int (2 : Int32)), .val (.int (0 : Int32)), .unset] [(.int (2 : Int32)), (.int (0 : Int32))])) (fun _ zk => XS.iloadN X1.here hx rfl (hb hby d1_10) rfl zk) ?_
  refine Go.st (T' := T1) (g' := (mkF m 14 #[.val (.int c0), .val (.ref b1), .val (.int (2 : Int32)), .val (.int (0 : Int32)), .unset] [])) (fun _ zk => XS.icmpNo X1.here hx rfl (hb hby d1_11) rfl (tlt ((by decide) : (0 : Int32) < (2 : Int32))).2.1 zk) ?_
  refine Go.st (T' := T1) (g' := (mkF m 15 #[.val (.int c0), .val (.ref b1), .val (.int (2 : Int32)), .val (.int (0 : Int32)), .unset] [(.ref b1)])) (fun _ zk => XS.aloadN X1.here hx rfl (hb hby d1_14) rfl rfl zk) ?_
  refine Go.st (T' := T1) (g' := (mkF m 16 #[.val (.int c0), .val (.ref b1), .val (.int (2 : Int32)), .val (.int (0 : Int32)), .unset] [(.int (0 : Int32)), (.ref b1)])) (fun _ zk => XS.iloadN X1.here hx rfl (hb hby d1_15) rfl zk) ?_
  refine Go.st (T' := T1) (g' := (mkF m 17 #[.val (.int c0), .val (.ref b1), .val (.int (2 : Int32)), .val (.int (0 : Int32)), .unset] [(.ref hA)])) (fun _ zk => ldRV X1 hx hZ e1 V1 (j := (0 : Int32)) ⟨by decide, by decide⟩ (v := (.ref hA)) rfl (g := (mkF m 16 #[.val (.int c0), .val (.ref b1), .val (.int (2 : Int32)), .val (.int (0 : Int32)), .unset] [(.int (0 : Int32)), (.ref b1)])) rfl (rest := []) rfl (hb hby d1_16) zk) ?_
  refine Go.st (T' := T1) (g' := (mkF m 19 #[.val (.int c0), .val (.ref b1), .val (.int (2 : Int32)), .val (.int (0 : Int32)), .val (.ref hA)] [])) (fun _ zk => XS.astore X1.here hx rfl (hb hby d1_17) rfl rfl (l' := #[.val (.int c0), .val (.ref b1), .val (.int (2 : Int32)), .val (.int (0 : Int32)), .val (.ref hA)]) rfl zk) ?_
  refine Go.st (T' := T1) (g' := (mkF m 20 #[.val (.int c0), .val (.ref b1), .val (.int (2 : Int32)), .val (.int (0 : Int32)), .val (.ref hA)] [(.int c0)])) (fun _ zk => XS.iloadN X1.here hx rfl (hb hby d1_19) rfl zk) ?_
  refine Go.st (T' := T1) (g' := (mkF m 22 #[.val (.int c0), .val (.ref b1), .val (.int (2 : Int32)), .val (.int (0 : Int32)), .val (.ref hA)] [(.ref hA), (.int c0)])) (fun _ zk => XS.aload X1.here hx rfl (hb hby d1_20) rfl rfl zk) ?_
  have x2 : Ext h0 h1 := E1
  have f3 := O0.ext x2
  obtain ⟨T4, X4, e4, st4⟩ := getF X1 hx hZ hown (host := "") (Or.inl (w21 hw)) Via.refl e1 (LH.ext f3.2) (g := (mkF m 22 #[.val (.int c0), .val (.ref b1), .val (.int (2 : Int32)), .val (.int (0 : Int32)), .val (.ref hA)] [(.ref hA), (.int c0)])) rfl rfl (hb hby d1_22)
  refine Go.st (T' := T4) (g' := (mkF m 25 #[.val (.int c0), .val (.ref b1), .val (.int (2 : Int32)), .val (.int (0 : Int32)), .val (.ref hA)] [(.int (104 : Int32)), (.int c0)])) (fun _ zk => st4 _ zk) ?_
  by_cases hc25 : c0 = (104 : Int32)
  · refine Go.st (T' := T4) (g' := (mkF m 28 #[.val (.int c0), .val (.ref b1), .val (.int (2 : Int32)), .val (.int (0 : Int32)), .val (.ref hA)] [])) (fun _ zk => XS.icmpNo X4.here hx rfl (hb hby d1_25) rfl (teq hc25).2 zk) ?_
    refine Go.st (T' := T4) (g' := (mkF m 30 #[.val (.int c0), .val (.ref b1), .val (.int (2 : Int32)), .val (.int (0 : Int32)), .val (.ref hA)] [(.ref hA)])) (fun _ zk => XS.aload X4.here hx rfl (hb hby d1_28) rfl rfl zk) ?_
    refine Go.retA X4 hx hlk hret rfl rfl (hb hby d1_30) (by decide) (by decide) e4 ?_
    exact ⟨by simp [hc25], N1, x2⟩
  · refine Go.st (T' := T4) (g' := (mkF m 31 #[.val (.int c0), .val (.ref b1), .val (.int (2 : Int32)), .val (.int (0 : Int32)), .val (.ref hA)] [])) (fun _ zk => XS.icmpYes X4.here hx rfl (pc0 := 25) (pc' := 31) rfl (hb hby d1_25) rfl (feq hc25).2 (by decide) (by decide) zk) ?_
    refine Go.st (T' := T4) (g' := (mkF m 34 #[.val (.int c0), .val (.ref b1), .val (.int (2 : Int32)), .val (.int ((0 : Int32) + (1 : Int32))), .val (.ref hA)] [])) (fun _ zk => XS.iinc X4.here hx rfl (hb hby d1_31) rfl (l' := #[.val (.int c0), .val (.ref b1), .val (.int (2 : Int32)), .val (.int ((0 : Int32) + (1 : Int32))), .val (.ref hA)]) rfl zk) ?_
    rw [show ((0 : Int32) + (1 : Int32)) = (1 : Int32) from by decide]
    refine Go.st (T' := T4) (g' := (mkF m 9 #[.val (.int c0), .val (.ref b1), .val (.int (2 : Int32)), .val (.int (1 : Int32)), .val (.ref hA)] [])) (fun _ zk => XS.goto X4.here hx rfl (pc0 := 34) (pc' := 9) rfl (hb hby d1_34) (by decide) (by decide) zk) ?_
    refine Go.st (T' := T4) (g' := (mkF m 10 #[.val (.int c0), .val (.ref b1), .val (.int (2 : Int32)), .val (.int (1 : Int32)), .val (.ref hA)] [(.int (1 : Int32))])) (fun _ zk => XS.iloadN X4.here hx rfl (hb hby d1_9) rfl zk) ?_
    refine Go.st (T' := T4) (g' := (mkF m 11 #[.val (.int c0), .val (.ref b1), .val (.int (2 : Int32)), .val (.int (1 : Int32)), .val (.ref hA)] [(.int (2 : Int32)), (.int (1 : Int32))])) (fun _ zk => XS.iloadN X4.here hx rfl (hb hby d1_10) rfl zk) ?_
    refine Go.st (T' := T4) (g' := (mkF m 14 #[.val (.int c0), .val (.ref b1), .val (.int (2 : Int32)), .val (.int (1 : Int32)), .val (.ref hA)] [])) (fun _ zk => XS.icmpNo X4.here hx rfl (hb hby d1_11) rfl (tlt ((by decide) : (1 : Int32) < (2 : Int32))).2.1 zk) ?_
    refine Go.st (T' := T4) (g' := (mkF m 15 #[.val (.int c0), .val (.ref b1), .val (.int (2 : Int32)), .val (.int (1 : Int32)), .val (.ref hA)] [(.ref b1)])) (fun _ zk => XS.aloadN X4.here hx rfl (hb hby d1_14) rfl rfl zk) ?_
    refine Go.st (T' := T4) (g' := (mkF m 16 #[.val (.int c0), .val (.ref b1), .val (.int (2 : Int32)), .val (.int (1 : Int32)), .val (.ref hA)] [(.int (1 : Int32)), (.ref b1)])) (fun _ zk => XS.iloadN X4.here hx rfl (hb hby d1_15) rfl zk) ?_
    refine Go.st (T' := T4) (g' := (mkF m 17 #[.val (.int c0), .val (.ref b1), .val (.int (2 : Int32)), .val (.int (1 : Int32)), .val (.ref hA)] [(.ref rA)])) (fun _ zk => ldRV X4 hx hZ e4 V1 (j := (1 : Int32)) ⟨by decide, by decide⟩ (v := (.ref rA)) rfl (g := (mkF m 16 #[.val (.int c0), .val (.ref b1), .val (.int (2 : Int32)), .val (.int (1 : Int32)), .val (.ref hA)] [(.int (1 : Int32)), (.ref b1)])) rfl (rest := []) rfl (hb hby d1_16) zk) ?_
    refine Go.st (T' := T4) (g' := (mkF m 19 #[.val (.int c0), .val (.ref b1), .val (.int (2 : Int32)), .val (.int (1 : Int32)), .val (.ref rA)] [])) (fun _ zk => XS.astore X4.here hx rfl (hb hby d1_17) rfl rfl (l' := #[.val (.int c0), .val (.ref b1), .val (.int (2 : Int32)), .val (.int (1 : Int32)), .val (.ref rA)]) rfl zk) ?_
    refine Go.st (T' := T4) (g' := (mkF m 20 #[.val (.int c0), .val (.ref b1), .val (.int (2 : Int32)), .val (.int (1 : Int32)), .val (.ref rA)] [(.int c0)])) (fun _ zk => XS.iloadN X4.here hx rfl (hb hby d1_19) rfl zk) ?_
    refine Go.st (T' := T4) (g' := (mkF m 22 #[.val (.int c0), .val (.ref b1), .val (.int (2 : Int32)), .val (.int (1 : Int32)), .val (.ref rA)] [(.ref rA), (.int c0)])) (fun _ zk => XS.aload X4.here hx rfl (hb hby d1_20) rfl rfl zk) ?_
    obtain ⟨T5, X5, e5, st5⟩ := getF X4 hx hZ hown (host := "") (Or.inl (w21 hw)) Via.refl e4 (LV.ext f3.2) (g := (mkF m 22 #[.val (.int c0), .val (.ref b1), .val (.int (2 : Int32)), .val (.int (1 : Int32)), .val (.ref rA)] [(.ref rA), (.int c0)])) rfl rfl (hb hby d1_22)
    refine Go.st (T' := T5) (g' := (mkF m 25 #[.val (.int c0), .val (.ref b1), .val (.int (2 : Int32)), .val (.int (1 : Int32)), .val (.ref rA)] [(.int (86 : Int32)), (.int c0)])) (fun _ zk => st5 _ zk) ?_
    by_cases hc25' : c0 = (86 : Int32)
    · refine Go.st (T' := T5) (g' := (mkF m 28 #[.val (.int c0), .val (.ref b1), .val (.int (2 : Int32)), .val (.int (1 : Int32)), .val (.ref rA)] [])) (fun _ zk => XS.icmpNo X5.here hx rfl (hb hby d1_25) rfl (teq hc25').2 zk) ?_
      refine Go.st (T' := T5) (g' := (mkF m 30 #[.val (.int c0), .val (.ref b1), .val (.int (2 : Int32)), .val (.int (1 : Int32)), .val (.ref rA)] [(.ref rA)])) (fun _ zk => XS.aload X5.here hx rfl (hb hby d1_28) rfl rfl zk) ?_
      refine Go.retA X5 hx hlk hret rfl rfl (hb hby d1_30) (by decide) (by decide) e5 ?_
      exact ⟨by simp [hc25, hc25'], N1, x2⟩
    · refine Go.st (T' := T5) (g' := (mkF m 31 #[.val (.int c0), .val (.ref b1), .val (.int (2 : Int32)), .val (.int (1 : Int32)), .val (.ref rA)] [])) (fun _ zk => XS.icmpYes X5.here hx rfl (pc0 := 25) (pc' := 31) rfl (hb hby d1_25) rfl (feq hc25').2 (by decide) (by decide) zk) ?_
      refine Go.st (T' := T5) (g' := (mkF m 34 #[.val (.int c0), .val (.ref b1), .val (.int (2 : Int32)), .val (.int ((1 : Int32) + (1 : Int32))), .val (.ref rA)] [])) (fun _ zk => XS.iinc X5.here hx rfl (hb hby d1_31) rfl (l' := #[.val (.int c0), .val (.ref b1), .val (.int (2 : Int32)), .val (.int ((1 : Int32) + (1 : Int32))), .val (.ref rA)]) rfl zk) ?_
      rw [show ((1 : Int32) + (1 : Int32)) = (2 : Int32) from by decide]
      refine Go.st (T' := T5) (g' := (mkF m 9 #[.val (.int c0), .val (.ref b1), .val (.int (2 : Int32)), .val (.int (2 : Int32)), .val (.ref rA)] [])) (fun _ zk => XS.goto X5.here hx rfl (pc0 := 34) (pc' := 9) rfl (hb hby d1_34) (by decide) (by decide) zk) ?_
      refine Go.st (T' := T5) (g' := (mkF m 10 #[.val (.int c0), .val (.ref b1), .val (.int (2 : Int32)), .val (.int (2 : Int32)), .val (.ref rA)] [(.int (2 : Int32))])) (fun _ zk => XS.iloadN X5.here hx rfl (hb hby d1_9) rfl zk) ?_
      refine Go.st (T' := T5) (g' := (mkF m 11 #[.val (.int c0), .val (.ref b1), .val (.int (2 : Int32)), .val (.int (2 : Int32)), .val (.ref rA)] [(.int (2 : Int32)), (.int (2 : Int32))])) (fun _ zk => XS.iloadN X5.here hx rfl (hb hby d1_10) rfl zk) ?_
      refine Go.st (T' := T5) (g' := (mkF m 37 #[.val (.int c0), .val (.ref b1), .val (.int (2 : Int32)), .val (.int (2 : Int32)), .val (.ref rA)] [])) (fun _ zk => XS.icmpYes X5.here hx rfl (pc0 := 11) (pc' := 37) rfl (hb hby d1_11) rfl (flt ((by decide) : ¬ ((2 : Int32) < (2 : Int32)))).2.1 (by decide) (by decide) zk) ?_
      refine Go.st (T' := T5) (g' := (mkF m 38 #[.val (.int c0), .val (.ref b1), .val (.int (2 : Int32)), .val (.int (2 : Int32)), .val (.ref rA)] [.null])) (fun _ zk => XS.aconstNull X5.here hx rfl (hb hby d1_37) zk) ?_
      refine Go.retA X5 hx hlk hret rfl rfl (hb hby d1_38) (by decide) (by decide) e5 ?_
      exact ⟨by simp [hc25, hc25'], N1, x2⟩
theorem w24 {a0 : Array Value} {Z : State} (hw : ∀ d ∈ tables_1, d.before a0 Z = true) : ((Jvm.Cond.fieldLink "com/example/tierbook/tierbook/cli/FlagOfLetterPinLaw" (7 : Nat) "com/example/tierbook/tierbook/cli/Flag" "HELP" "Lcom/example/tierbook/tierbook/cli/Flag;")).before a0 Z = true := hw _ (List.mem_of_getElem? (i := 24) rfl)
theorem w3 {a0 : Array Value} {Z : State} (hw : ∀ d ∈ tables_1, d.before a0 Z = true) : ((Jvm.Cond.code ({ cls := "com/example/tierbook/tierbook/cli/Flag", name := "ofLetter", desc := "(C)Lcom/example/tierbook/tierbook/cli/Flag;" } : Jvm.MethodName) prog_5_method_5_code (5 : Nat) (Option.some (Jvm.ClassFile.FieldType.object "com/example/tierbook/tierbook/cli/Flag")))).before a0 Z = true := hw _ (List.mem_of_getElem? (i := 3) rfl)
theorem pd2 : parseMethodDescriptor "(C)Lcom/example/tierbook/tierbook/cli/Flag;" = some ⟨[.char], some (.object "com/example/tierbook/tierbook/cli/Flag")⟩ := by decide +kernel
theorem w0 {a0 : Array Value} {Z : State} (hw : ∀ d ∈ tables_1, d.before a0 Z = true) : ((Jvm.Cond.methodLink "com/example/tierbook/tierbook/cli/FlagOfLetterPinLaw" (16 : Nat) ({ cls := "com/example/tierbook/tierbook/cli/Flag", name := "ofLetter", desc := "(C)Lcom/example/tierbook/tierbook/cli/Flag;" } : Jvm.MethodName))).before a0 Z = true := hw _ (List.mem_of_getElem? (i := 0) rfl)
theorem w1 {a0 : Array Value} {Z : State} (hw : ∀ d ∈ tables_1, d.before a0 Z = true) : ((Jvm.Cond.static ({ cls := "com/example/tierbook/tierbook/cli/Flag", name := "ofLetter", desc := "(C)Lcom/example/tierbook/tierbook/cli/Flag;" } : Jvm.MethodName))).before a0 Z = true := hw _ (List.mem_of_getElem? (i := 1) rfl)
theorem w23 {a0 : Array Value} {Z : State} (hw : ∀ d ∈ tables_1, d.before a0 Z = true) : ((Jvm.Cond.fieldLink "com/example/tierbook/tierbook/cli/FlagOfLetterPinLaw" (13 : Nat) "com/example/tierbook/tierbook/cli/Flag" "VERSION" "Lcom/example/tierbook/tierbook/cli/Flag;")).before a0 Z = true := hw _ (List.mem_of_getElem? (i := 23) rfl)
theorem pn3 : plainName "com/example/tierbook/tierbook/cli/FlagOfLetterPinLaw" = true := by first | (simp [plainName, overriddenIn]; done) | decide +kernel
set_option maxRecDepth 65536 in
set_option maxHeartbeats 40000000 in
theorem rm_law (l : Launch) (Z : State) (a0 : Array Value) (hw : ∀ d ∈ tables_1, d.before a0 Z = true) (ws : List Jvm.Cond) (x0 x1 : Int32) (vA hA rA : Addr) (kV : ClassId) (h0 : Heap) (n0 : Nat) (Z0 : n0 ≤ h0.size) (O0 : Old Z n0 h0) (SV : Sta Z Z.heap "com/example/tierbook/tierbook/cli/Flag" "$VALUES" "[Lcom/example/tierbook/tierbook/cli/Flag;" (.ref vA)) (EV : Exa Z Z.heap vA "[Lcom/example/tierbook/tierbook/cli/Flag;") (FV : Arv Z Z.heap vA kV (.object "com/example/tierbook/tierbook/cli/Flag") 2 [.ref hA, .ref rA] .null) (LH : Fld Z Z.heap hA "com/example/tierbook/tierbook/cli/Flag" "letter" "C" (.int 104)) (LV : Fld Z Z.heap rA "com/example/tierbook/tierbook/cli/Flag" "letter" "C" (.int 86)) (SH : Sta Z Z.heap "com/example/tierbook/tierbook/cli/Flag" "HELP" "Lcom/example/tierbook/tierbook/cli/Flag;" (.ref hA)) (SR : Sta Z Z.heap "com/example/tierbook/tierbook/cli/Flag" "VERSION" "Lcom/example/tierbook/tierbook/cli/Flag;" (.ref rA)) :
    Con l Z x code maxLocals ret ws room_1 #[(.int x0), (.int x1)] h0 (fun v h L => v = some (.int 1) ∧ Fr n0 L) := by
  refine Con.enter (plainFor_of_name pn3) ?_
  intro p e s m below meth c s₁ X0 hx hZ hby hml hret hlk hown hnm e0
  have N0 := Fr.nil n0
  refine Go.cast (g' := (mkF m 0 #[.val (.int x0), .val (.int x1), .unset, .unset, .unset] [])) (by first | rfl | (simp [entryFrame, mkF, argsToLocals, Value.category, maxLocals]; done)) ?_
  refine Go.st (T' := s₁) (g' := (mkF m 1 #[.val (.int x0), .val (.int x1), .unset, .unset, .unset] [(.int x1)])) (fun _ zk => XS.iloadN X0.here hx rfl (hb hby at_0) rfl zk) ?_
  refine Go.st (T' := s₁) (g' := (mkF m 3 #[.val (.int x0), .val (.int x1), .unset, .unset, .unset] [(.int (7 : Int32)), (.int x1)])) (fun _ zk => XS.bipush X0.here hx rfl (hb hby at_1) zk) ?_
  refine Go.st (T' := s₁) (g' := (mkF m 4 #[.val (.int x0), .val (.int x1), .unset, .unset, .unset] [(.int (x1 &&& (7 : Int32)))])) (fun _ zk => XS.iand X0.here hx rfl (hb hby at_3) rfl zk) ?_
  refine Go.st (T' := s₁) (g' := (mkF m 5 #[.val (.int x0), .val (.int x1), .val (.int (x1 &&& (7 : Int32))), .unset, .unset] [])) (fun _ zk => XS.istoreN X0.here hx rfl (hb hby at_4) rfl (l' := #[.val (.int x0), .val (.int x1), .val (.int (x1 &&& (7 : Int32))), .unset, .unset]) rfl zk) ?_
  refine Go.st (T' := s₁) (g' := (mkF m 6 #[.val (.int x0), .val (.int x1), .val (.int (x1 &&& (7 : Int32))), .unset, .unset] [(.int (x1 &&& (7 : Int32)))])) (fun _ zk => XS.iloadN X0.here hx rfl (hb hby at_5) rfl zk) ?_
  by_cases hc6 : (x1 &&& (7 : Int32)) = (0 : Int32)
  · refine Go.st (T' := s₁) (g' := (mkF m 9 #[.val (.int x0), .val (.int x1), .val (.int (x1 &&& (7 : Int32))), .unset, .unset] [])) (fun _ zk => XS.ifNo X0.here hx rfl (hb hby at_6) rfl ((if0 _ _).trans (teq hc6).2) zk) ?_
    refine Go.st (T' := s₁) (g' := (mkF m 11 #[.val (.int x0), .val (.int x1), .val (.int (x1 &&& (7 : Int32))), .unset, .unset] [(.int (104 : Int32))])) (fun _ zk => XS.bipush X0.here hx rfl (hb hby at_9) zk) ?_
    refine Go.st (T' := s₁) (g' := (mkF m 12 #[.val (.int x0), .val (.int x1), .val (.int (x1 &&& (7 : Int32))), .val (.int (104 : Int32)), .unset] [])) (fun _ zk => XS.istoreN X0.here hx rfl (hb hby at_11) rfl (l' := #[.val (.int x0), .val (.int x1), .val (.int (x1 &&& (7 : Int32))), .val (.int (104 : Int32)), .unset]) rfl zk) ?_
    refine Go.st (T' := s₁) (g' := (mkF m 51 #[.val (.int x0), .val (.int x1), .val (.int (x1 &&& (7 : Int32))), .val (.int (104 : Int32)), .unset] [])) (fun _ zk => XS.goto X0.here hx rfl (pc0 := 12) (pc' := 51) rfl (hb hby at_12) (by decide) (by decide) zk) ?_
    refine Go.st (T' := s₁) (g' := (mkF m 52 #[.val (.int x0), .val (.int x1), .val (.int (x1 &&& (7 : Int32))), .val (.int (104 : Int32)), .unset] [(.int (104 : Int32))])) (fun _ zk => XS.iloadN X0.here hx rfl (hb hby at_51) rfl zk) ?_
    refine Go.st (T' := s₁) (g' := (mkF m 54 #[.val (.int x0), .val (.int x1), .val (.int (x1 &&& (7 : Int32))), .val (.int (104 : Int32)), .unset] [(.int (104 : Int32)), (.int (104 : Int32))])) (fun _ zk => XS.bipush X0.here hx rfl (hb hby at_52) zk) ?_
    refine Go.st (T' := s₁) (g' := (mkF m 57 #[.val (.int x0), .val (.int x1), .val (.int (x1 &&& (7 : Int32))), .val (.int (104 : Int32)), .unset] [])) (fun _ zk => XS.icmpNo X0.here hx rfl (hb hby at_54) rfl (teq (rfl : (104 : Int32) = (104 : Int32))).2 zk) ?_
    obtain ⟨T1, X1, e1, st1⟩ := getS2 X0 hx hZ hown (host := "") (Or.inl (w24 hw)) Via.refl e0 (SH.ext O0.2) (g := (mkF m 57 #[.val (.int x0), .val (.int x1), .val (.int (x1 &&& (7 : Int32))), .val (.int (104 : Int32)), .unset] [])) rfl (hb hby at_57)
    refine Go.st (T' := T1) (g' := (mkF m 60 #[.val (.int x0), .val (.int x1), .val (.int (x1 &&& (7 : Int32))), .val (.int (104 : Int32)), .unset] [(.ref hA)])) (fun _ zk => st1 _ zk) ?_
    refine Go.st (T' := T1) (g' := (mkF m 62 #[.val (.int x0), .val (.int x1), .val (.int (x1 &&& (7 : Int32))), .val (.int (104 : Int32)), .val (.ref hA)] [])) (fun _ zk => XS.astore X1.here hx rfl (hb hby at_60) rfl rfl (l' := #[.val (.int x0), .val (.int x1), .val (.int (x1 &&& (7 : Int32))), .val (.int (104 : Int32)), .val (.ref hA)]) rfl zk) ?_
    refine Go.st (T' := T1) (g' := (mkF m 82 #[.val (.int x0), .val (.int x1), .val (.int (x1 &&& (7 : Int32))), .val (.int (104 : Int32)), .val (.ref hA)] [])) (fun _ zk => XS.goto X1.here hx rfl (pc0 := 62) (pc' := 82) rfl (hb hby at_62) (by decide) (by decide) zk) ?_
    refine Go.st (T' := T1) (g' := (mkF m 83 #[.val (.int x0), .val (.int x1), .val (.int (x1 &&& (7 : Int32))), .val (.int (104 : Int32)), .val (.ref hA)] [(.int (104 : Int32))])) (fun _ zk => XS.iloadN X1.here hx rfl (hb hby at_82) rfl zk) ?_
    refine Go.callSt (y := (⟨"com/example/tierbook/tierbook/cli/Flag", "ofLetter", "(C)Lcom/example/tierbook/tierbook/cli/Flag;"⟩ : MethodName)) X1 hx hZ hown e1 (w0 hw) (w1 hw) (w2 hw) (w3 hw) (by decide) (argsL := [(.int (104 : Int32))]) (rest := []) (W := 0) (rm_ofLetter l Z a0 hw [] (104 : Int32) vA hA rA kV h0 n0 Z0 O0 SV EV FV LH LV) rfl (lenOf pd2 rfl) rfl (by rw [hml]; rfl) rfl (by show 2 * 0 + _ ≤ _; exact Nat.le_of_eq rfl) (by decide) (by decide) (by decide) (by decide) (hb hby at_83) ?_
    intro v2 T2 h2 L2 X2 e2 q2
    obtain ⟨hv2, Nf2, E2⟩ := q2
    rw [if_pos (show ((104 : Int32) = 104) by decide)] at hv2
    subst hv2
    have N2 := Fr.app N0 Nf2
    show Go p.tables e below _ T2 (mkF m 86 #[.val (.int x0), .val (.int x1), .val (.int (x1 &&& (7 : Int32))), .val (.int (104 : Int32)), .val (.ref hA)] [(.ref hA)])
    refine Go.st (T' := T2) (g' := (mkF m 88 #[.val (.int x0), .val (.int x1), .val (.int (x1 &&& (7 : Int32))), .val (.int (104 : Int32)), .val (.ref hA)] [(.ref hA), (.ref hA)])) (fun _ zk => XS.aload X2.here hx rfl (hb hby at_86) rfl rfl zk) ?_
    refine Go.st (T' := T2) (g' := (mkF m 91 #[.val (.int x0), .val (.int x1), .val (.int (x1 &&& (7 : Int32))), .val (.int (104 : Int32)), .val (.ref hA)] [])) (fun _ zk => Jvm.RoadKit.acmp (g := (mkF m 88 #[.val (.int x0), .val (.int x1), .val (.int (x1 &&& (7 : Int32))), .val (.int (104 : Int32)), .val (.ref hA)] [(.ref hA), (.ref hA)])) X2 hx rfl rfl rfl (pc0 := 88) (pc' := 91) (same := true) rfl (hb hby at_88) rfl (decide_eq_true rfl) (by decide) (by decide) zk) ?_
    refine Go.st (T' := T2) (g' := (mkF m 92 #[.val (.int x0), .val (.int x1), .val (.int (x1 &&& (7 : Int32))), .val (.int (104 : Int32)), .val (.ref hA)] [(.int (1 : Int32))])) (fun _ zk => XS.iconst X2.here hx rfl (hb hby at_91) zk) ?_
    refine Go.st (T' := T2) (g' := (mkF m 96 #[.val (.int x0), .val (.int x1), .val (.int (x1 &&& (7 : Int32))), .val (.int (104 : Int32)), .val (.ref hA)] [(.int (1 : Int32))])) (fun _ zk => XS.goto X2.here hx rfl (pc0 := 92) (pc' := 96) rfl (hb hby at_92) (by decide) (by decide) zk) ?_
    refine Go.retN X2 hx hlk hret rfl (by simp) (hb hby at_96) (by decide) (by decide) e2 ?_
    exact ⟨rfl, N2⟩
  · refine Go.st (T' := s₁) (g' := (mkF m 15 #[.val (.int x0), .val (.int x1), .val (.int (x1 &&& (7 : Int32))), .unset, .unset] [])) (fun _ zk => XS.ifYes X0.here hx rfl (pc0 := 6) (pc' := 15) rfl (hb hby at_6) rfl ((if0 _ _).trans (feq hc6).2) (by decide) (by decide) zk) ?_
    refine Go.st (T' := s₁) (g' := (mkF m 16 #[.val (.int x0), .val (.int x1), .val (.int (x1 &&& (7 : Int32))), .unset, .unset] [(.int (x1 &&& (7 : Int32)))])) (fun _ zk => XS.iloadN X0.here hx rfl (hb hby at_15) rfl zk) ?_
    refine Go.st (T' := s₁) (g' := (mkF m 17 #[.val (.int x0), .val (.int x1), .val (.int (x1 &&& (7 : Int32))), .unset, .unset] [(.int (1 : Int32)), (.int (x1 &&& (7 : Int32)))])) (fun _ zk => XS.iconst X0.here hx rfl (hb hby at_16) zk) ?_
    by_cases hc17 : (x1 &&& (7 : Int32)) = (1 : Int32)
    · refine Go.st (T' := s₁) (g' := (mkF m 20 #[.val (.int x0), .val (.int x1), .val (.int (x1 &&& (7 : Int32))), .unset, .unset] [])) (fun _ zk => XS.icmpNo X0.here hx rfl (hb hby at_17) rfl (teq hc17).2 zk) ?_
      refine Go.st (T' := s₁) (g' := (mkF m 22 #[.val (.int x0), .val (.int x1), .val (.int (x1 &&& (7 : Int32))), .unset, .unset] [(.int (86 : Int32))])) (fun _ zk => XS.bipush X0.here hx rfl (hb hby at_20) zk) ?_
      refine Go.st (T' := s₁) (g' := (mkF m 23 #[.val (.int x0), .val (.int x1), .val (.int (x1 &&& (7 : Int32))), .val (.int (86 : Int32)), .unset] [])) (fun _ zk => XS.istoreN X0.here hx rfl (hb hby at_22) rfl (l' := #[.val (.int x0), .val (.int x1), .val (.int (x1 &&& (7 : Int32))), .val (.int (86 : Int32)), .unset]) rfl zk) ?_
      refine Go.st (T' := s₁) (g' := (mkF m 51 #[.val (.int x0), .val (.int x1), .val (.int (x1 &&& (7 : Int32))), .val (.int (86 : Int32)), .unset] [])) (fun _ zk => XS.goto X0.here hx rfl (pc0 := 23) (pc' := 51) rfl (hb hby at_23) (by decide) (by decide) zk) ?_
      refine Go.st (T' := s₁) (g' := (mkF m 52 #[.val (.int x0), .val (.int x1), .val (.int (x1 &&& (7 : Int32))), .val (.int (86 : Int32)), .unset] [(.int (86 : Int32))])) (fun _ zk => XS.iloadN X0.here hx rfl (hb hby at_51) rfl zk) ?_
      refine Go.st (T' := s₁) (g' := (mkF m 54 #[.val (.int x0), .val (.int x1), .val (.int (x1 &&& (7 : Int32))), .val (.int (86 : Int32)), .unset] [(.int (104 : Int32)), (.int (86 : Int32))])) (fun _ zk => XS.bipush X0.here hx rfl (hb hby at_52) zk) ?_
      refine Go.st (T' := s₁) (g' := (mkF m 65 #[.val (.int x0), .val (.int x1), .val (.int (x1 &&& (7 : Int32))), .val (.int (86 : Int32)), .unset] [])) (fun _ zk => XS.icmpYes X0.here hx rfl (pc0 := 54) (pc' := 65) rfl (hb hby at_54) rfl (feq ((by decide) : ¬ ((86 : Int32) = (104 : Int32)))).2 (by decide) (by decide) zk) ?_
      refine Go.st (T' := s₁) (g' := (mkF m 66 #[.val (.int x0), .val (.int x1), .val (.int (x1 &&& (7 : Int32))), .val (.int (86 : Int32)), .unset] [(.int (86 : Int32))])) (fun _ zk => XS.iloadN X0.here hx rfl (hb hby at_65) rfl zk) ?_
      refine Go.st (T' := s₁) (g' := (mkF m 68 #[.val (.int x0), .val (.int x1), .val (.int (x1 &&& (7 : Int32))), .val (.int (86 : Int32)), .unset] [(.int (86 : Int32)), (.int (86 : Int32))])) (fun _ zk => XS.bipush X0.here hx rfl (hb hby at_66) zk) ?_
      refine Go.st (T' := s₁) (g' := (mkF m 71 #[.val (.int x0), .val (.int x1), .val (.int (x1 &&& (7 : Int32))), .val (.int (86 : Int32)), .unset] [])) (fun _ zk => XS.icmpNo X0.here hx rfl (hb hby at_68) rfl (teq (rfl : (86 : Int32) = (86 : Int32))).2 zk) ?_
      obtain ⟨T3, X3, e3, st3⟩ := getS2 X0 hx hZ hown (host := "") (Or.inl (w23 hw)) Via.refl e0 (SR.ext O0.2) (g := (mkF m 71 #[.val (.int x0), .val (.int x1), .val (.int (x1 &&& (7 : Int32))), .val (.int (86 : Int32)), .unset] [])) rfl (hb hby at_71)
      refine Go.st (T' := T3) (g' := (mkF m 74 #[.val (.int x0), .val (.int x1), .val (.int (x1 &&& (7 : Int32))), .val (.int (86 : Int32)), .unset] [(.ref rA)])) (fun _ zk => st3 _ zk) ?_
      refine Go.st (T' := T3) (g' := (mkF m 76 #[.val (.int x0), .val (.int x1), .val (.int (x1 &&& (7 : Int32))), .val (.int (86 : Int32)), .val (.ref rA)] [])) (fun _ zk => XS.astore X3.here hx rfl (hb hby at_74) rfl rfl (l' := #[.val (.int x0), .val (.int x1), .val (.int (x1 &&& (7 : Int32))), .val (.int (86 : Int32)), .val (.ref rA)]) rfl zk) ?_
      refine Go.st (T' := T3) (g' := (mkF m 82 #[.val (.int x0), .val (.int x1), .val (.int (x1 &&& (7 : Int32))), .val (.int (86 : Int32)), .val (.ref rA)] [])) (fun _ zk => XS.goto X3.here hx rfl (pc0 := 76) (pc' := 82) rfl (hb hby at_76) (by decide) (by decide) zk) ?_
      refine Go.st (T' := T3) (g' := (mkF m 83 #[.val (.int x0), .val (.int x1), .val (.int (x1 &&& (7 : Int32))), .val (.int (86 : Int32)), .val (.ref rA)] [(.int (86 : Int32))])) (fun _ zk => XS.iloadN X3.here hx rfl (hb hby at_82) rfl zk) ?_
      refine Go.callSt (y := (⟨"com/example/tierbook/tierbook/cli/Flag", "ofLetter", "(C)Lcom/example/tierbook/tierbook/cli/Flag;"⟩ : MethodName)) X3 hx hZ hown e3 (w0 hw) (w1 hw) (w2 hw) (w3 hw) (by decide) (argsL := [(.int (86 : Int32))]) (rest := []) (W := 0) (rm_ofLetter l Z a0 hw [] (86 : Int32) vA hA rA kV h0 n0 Z0 O0 SV EV FV LH LV) rfl (lenOf pd2 rfl) rfl (by rw [hml]; rfl) rfl (by show 2 * 0 + _ ≤ _; exact Nat.le_of_eq rfl) (by decide) (by decide) (by decide) (by decide) (hb hby at_83) ?_
      intro v4 T4 h4 L4 X4 e4 q4
      obtain ⟨hv4, Nf4, E4⟩ := q4
      rw [if_neg (show ¬ ((86 : Int32) = 104) by decide), if_pos (show ((86 : Int32) = 86) by decide)] at hv4
      subst hv4
      have N4 := Fr.app N0 Nf4
      show Go p.tables e below _ T4 (mkF m 86 #[.val (.int x0), .val (.int x1), .val (.int (x1 &&& (7 : Int32))), .val (.int (86 : Int32)), .val (.ref rA)] [(.ref rA)])
      refine Go.st (T' := T4) (g' := (mkF m 88 #[.val (.int x0), .val (.int x1), .val (.int (x1 &&& (7 : Int32))), .val (.int (86 : Int32)), .val (.ref rA)] [(.ref rA), (.ref rA)])) (fun _ zk => XS.aload X4.here hx rfl (hb hby at_86) rfl rfl zk) ?_
      refine Go.st (T' := T4) (g' := (mkF m 91 #[.val (.int x0), .val (.int x1), .val (.int (x1 &&& (7 : Int32))), .val (.int (86 : Int32)), .val (.ref rA)] [])) (fun _ zk => Jvm.RoadKit.acmp (g := (mkF m 88 #[.val (.int x0), .val (.int x1), .val (.int (x1 &&& (7 : Int32))), .val (.int (86 : Int32)), .val (.ref rA)] [(.ref rA), (.ref rA)])) X4 hx rfl rfl rfl (pc0 := 88) (pc' := 91) (same := true) rfl (hb hby at_88) rfl (decide_eq_true rfl) (by decide) (by decide) zk) ?_
      refine Go.st (T' := T4) (g' := (mkF m 92 #[.val (.int x0), .val (.int x1), .val (.int (x1 &&& (7 : Int32))), .val (.int (86 : Int32)), .val (.ref rA)] [(.int (1 : Int32))])) (fun _ zk => XS.iconst X4.here hx rfl (hb hby at_91) zk) ?_
      refine Go.st (T' := T4) (g' := (mkF m 96 #[.val (.int x0), .val (.int x1), .val (.int (x1 &&& (7 : Int32))), .val (.int (86 : Int32)), .val (.ref rA)] [(.int (1 : Int32))])) (fun _ zk => XS.goto X4.here hx rfl (pc0 := 92) (pc' := 96) rfl (hb hby at_92) (by decide) (by decide) zk) ?_
      refine Go.retN X4 hx hlk hret rfl (by simp) (hb hby at_96) (by decide) (by decide) e4 ?_
      exact ⟨rfl, N4⟩
    · refine Go.st (T' := s₁) (g' := (mkF m 26 #[.val (.int x0), .val (.int x1), .val (.int (x1 &&& (7 : Int32))), .unset, .unset] [])) (fun _ zk => XS.icmpYes X0.here hx rfl (pc0 := 17) (pc' := 26) rfl (hb hby at_17) rfl (feq hc17).2 (by decide) (by decide) zk) ?_
      refine Go.st (T' := s₁) (g' := (mkF m 27 #[.val (.int x0), .val (.int x1), .val (.int (x1 &&& (7 : Int32))), .unset, .unset] [(.int (x1 &&& (7 : Int32)))])) (fun _ zk => XS.iloadN X0.here hx rfl (hb hby at_26) rfl zk) ?_
      refine Go.st (T' := s₁) (g' := (mkF m 28 #[.val (.int x0), .val (.int x1), .val (.int (x1 &&& (7 : Int32))), .unset, .unset] [(.int (2 : Int32)), (.int (x1 &&& (7 : Int32)))])) (fun _ zk => XS.iconst X0.here hx rfl (hb hby at_27) zk) ?_
      by_cases hc28 : (x1 &&& (7 : Int32)) = (2 : Int32)
      · refine Go.st (T' := s₁) (g' := (mkF m 31 #[.val (.int x0), .val (.int x1), .val (.int (x1 &&& (7 : Int32))), .unset, .unset] [])) (fun _ zk => XS.icmpNo X0.here hx rfl (hb hby at_28) rfl (teq hc28).2 zk) ?_
        refine Go.st (T' := s₁) (g' := (mkF m 33 #[.val (.int x0), .val (.int x1), .val (.int (x1 &&& (7 : Int32))), .unset, .unset] [(.int (72 : Int32))])) (fun _ zk => XS.bipush X0.here hx rfl (hb hby at_31) zk) ?_
        refine Go.st (T' := s₁) (g' := (mkF m 34 #[.val (.int x0), .val (.int x1), .val (.int (x1 &&& (7 : Int32))), .val (.int (72 : Int32)), .unset] [])) (fun _ zk => XS.istoreN X0.here hx rfl (hb hby at_33) rfl (l' := #[.val (.int x0), .val (.int x1), .val (.int (x1 &&& (7 : Int32))), .val (.int (72 : Int32)), .unset]) rfl zk) ?_
        refine Go.st (T' := s₁) (g' := (mkF m 51 #[.val (.int x0), .val (.int x1), .val (.int (x1 &&& (7 : Int32))), .val (.int (72 : Int32)), .unset] [])) (fun _ zk => XS.goto X0.here hx rfl (pc0 := 34) (pc' := 51) rfl (hb hby at_34) (by decide) (by decide) zk) ?_
        refine Go.st (T' := s₁) (g' := (mkF m 52 #[.val (.int x0), .val (.int x1), .val (.int (x1 &&& (7 : Int32))), .val (.int (72 : Int32)), .unset] [(.int (72 : Int32))])) (fun _ zk => XS.iloadN X0.here hx rfl (hb hby at_51) rfl zk) ?_
        refine Go.st (T' := s₁) (g' := (mkF m 54 #[.val (.int x0), .val (.int x1), .val (.int (x1 &&& (7 : Int32))), .val (.int (72 : Int32)), .unset] [(.int (104 : Int32)), (.int (72 : Int32))])) (fun _ zk => XS.bipush X0.here hx rfl (hb hby at_52) zk) ?_
        refine Go.st (T' := s₁) (g' := (mkF m 65 #[.val (.int x0), .val (.int x1), .val (.int (x1 &&& (7 : Int32))), .val (.int (72 : Int32)), .unset] [])) (fun _ zk => XS.icmpYes X0.here hx rfl (pc0 := 54) (pc' := 65) rfl (hb hby at_54) rfl (feq ((by decide) : ¬ ((72 : Int32) = (104 : Int32)))).2 (by decide) (by decide) zk) ?_
        refine Go.st (T' := s₁) (g' := (mkF m 66 #[.val (.int x0), .val (.int x1), .val (.int (x1 &&& (7 : Int32))), .val (.int (72 : Int32)), .unset] [(.int (72 : Int32))])) (fun _ zk => XS.iloadN X0.here hx rfl (hb hby at_65) rfl zk) ?_
        refine Go.st (T' := s₁) (g' := (mkF m 68 #[.val (.int x0), .val (.int x1), .val (.int (x1 &&& (7 : Int32))), .val (.int (72 : Int32)), .unset] [(.int (86 : Int32)), (.int (72 : Int32))])) (fun _ zk => XS.bipush X0.here hx rfl (hb hby at_66) zk) ?_
        refine Go.st (T' := s₁) (g' := (mkF m 79 #[.val (.int x0), .val (.int x1), .val (.int (x1 &&& (7 : Int32))), .val (.int (72 : Int32)), .unset] [])) (fun _ zk => XS.icmpYes X0.here hx rfl (pc0 := 68) (pc' := 79) rfl (hb hby at_68) rfl (feq ((by decide) : ¬ ((72 : Int32) = (86 : Int32)))).2 (by decide) (by decide) zk) ?_
        refine Go.st (T' := s₁) (g' := (mkF m 80 #[.val (.int x0), .val (.int x1), .val (.int (x1 &&& (7 : Int32))), .val (.int (72 : Int32)), .unset] [.null])) (fun _ zk => XS.aconstNull X0.here hx rfl (hb hby at_79) zk) ?_
        refine Go.st (T' := s₁) (g' := (mkF m 82 #[.val (.int x0), .val (.int x1), .val (.int (x1 &&& (7 : Int32))), .val (.int (72 : Int32)), .val .null] [])) (fun _ zk => XS.astore X0.here hx rfl (hb hby at_80) rfl rfl (l' := #[.val (.int x0), .val (.int x1), .val (.int (x1 &&& (7 : Int32))), .val (.int (72 : Int32)), .val .null]) rfl zk) ?_
        refine Go.st (T' := s₁) (g' := (mkF m 83 #[.val (.int x0), .val (.int x1), .val (.int (x1 &&& (7 : Int32))), .val (.int (72 : Int32)), .val .null] [(.int (72 : Int32))])) (fun _ zk => XS.iloadN X0.here hx rfl (hb hby at_82) rfl zk) ?_
        refine Go.callSt (y := (⟨"com/example/tierbook/tierbook/cli/Flag", "ofLetter", "(C)Lcom/example/tierbook/tierbook/cli/Flag;"⟩ : MethodName)) X0 hx hZ hown e0 (w0 hw) (w1 hw) (w2 hw) (w3 hw) (by decide) (argsL := [(.int (72 : Int32))]) (rest := []) (W := 0) (rm_ofLetter l Z a0 hw [] (72 : Int32) vA hA rA kV h0 n0 Z0 O0 SV EV FV LH LV) rfl (lenOf pd2 rfl) rfl (by rw [hml]; rfl) rfl (by show 2 * 0 + _ ≤ _; exact Nat.le_of_eq rfl) (by decide) (by decide) (by decide) (by decide) (hb hby at_83) ?_
        intro v5 T5 h5 L5 X5 e5 q5
        obtain ⟨hv5, Nf5, E5⟩ := q5
        rw [if_neg (show ¬ ((72 : Int32) = 104) by decide), if_neg (show ¬ ((72 : Int32) = 86) by decide)] at hv5
        subst hv5
        have N5 := Fr.app N0 Nf5
        show Go p.tables e below _ T5 (mkF m 86 #[.val (.int x0), .val (.int x1), .val (.int (x1 &&& (7 : Int32))), .val (.int (72 : Int32)), .val .null] [.null])
        refine Go.st (T' := T5) (g' := (mkF m 88 #[.val (.int x0), .val (.int x1), .val (.int (x1 &&& (7 : Int32))), .val (.int (72 : Int32)), .val .null] [.null, .null])) (fun _ zk => XS.aload X5.here hx rfl (hb hby at_86) rfl rfl zk) ?_
        refine Go.st (T' := T5) (g' := (mkF m 91 #[.val (.int x0), .val (.int x1), .val (.int (x1 &&& (7 : Int32))), .val (.int (72 : Int32)), .val .null] [])) (fun _ zk => Jvm.RoadKit.acmp (g := (mkF m 88 #[.val (.int x0), .val (.int x1), .val (.int (x1 &&& (7 : Int32))), .val (.int (72 : Int32)), .val .null] [.null, .null])) X5 hx rfl rfl rfl (pc0 := 88) (pc' := 91) (same := true) rfl (hb hby at_88) rfl (decide_eq_true rfl) (by decide) (by decide) zk) ?_
        refine Go.st (T' := T5) (g' := (mkF m 92 #[.val (.int x0), .val (.int x1), .val (.int (x1 &&& (7 : Int32))), .val (.int (72 : Int32)), .val .null] [(.int (1 : Int32))])) (fun _ zk => XS.iconst X5.here hx rfl (hb hby at_91) zk) ?_
        refine Go.st (T' := T5) (g' := (mkF m 96 #[.val (.int x0), .val (.int x1), .val (.int (x1 &&& (7 : Int32))), .val (.int (72 : Int32)), .val .null] [(.int (1 : Int32))])) (fun _ zk => XS.goto X5.here hx rfl (pc0 := 92) (pc' := 96) rfl (hb hby at_92) (by decide) (by decide) zk) ?_
        refine Go.retN X5 hx hlk hret rfl (by simp) (hb hby at_96) (by decide) (by decide) e5 ?_
        exact ⟨rfl, N5⟩
      · refine Go.st (T' := s₁) (g' := (mkF m 37 #[.val (.int x0), .val (.int x1), .val (.int (x1 &&& (7 : Int32))), .unset, .unset] [])) (fun _ zk => XS.icmpYes X0.here hx rfl (pc0 := 28) (pc' := 37) rfl (hb hby at_28) rfl (feq hc28).2 (by decide) (by decide) zk) ?_
        refine Go.st (T' := s₁) (g' := (mkF m 38 #[.val (.int x0), .val (.int x1), .val (.int (x1 &&& (7 : Int32))), .unset, .unset] [(.int (x1 &&& (7 : Int32)))])) (fun _ zk => XS.iloadN X0.here hx rfl (hb hby at_37) rfl zk) ?_
        refine Go.st (T' := s₁) (g' := (mkF m 39 #[.val (.int x0), .val (.int x1), .val (.int (x1 &&& (7 : Int32))), .unset, .unset] [(.int (3 : Int32)), (.int (x1 &&& (7 : Int32)))])) (fun _ zk => XS.iconst X0.here hx rfl (hb hby at_38) zk) ?_
        by_cases hc39 : (x1 &&& (7 : Int32)) = (3 : Int32)
        · refine Go.st (T' := s₁) (g' := (mkF m 42 #[.val (.int x0), .val (.int x1), .val (.int (x1 &&& (7 : Int32))), .unset, .unset] [])) (fun _ zk => XS.icmpNo X0.here hx rfl (hb hby at_39) rfl (teq hc39).2 zk) ?_
          refine Go.st (T' := s₁) (g' := (mkF m 44 #[.val (.int x0), .val (.int x1), .val (.int (x1 &&& (7 : Int32))), .unset, .unset] [(.int (118 : Int32))])) (fun _ zk => XS.bipush X0.here hx rfl (hb hby at_42) zk) ?_
          refine Go.st (T' := s₁) (g' := (mkF m 45 #[.val (.int x0), .val (.int x1), .val (.int (x1 &&& (7 : Int32))), .val (.int (118 : Int32)), .unset] [])) (fun _ zk => XS.istoreN X0.here hx rfl (hb hby at_44) rfl (l' := #[.val (.int x0), .val (.int x1), .val (.int (x1 &&& (7 : Int32))), .val (.int (118 : Int32)), .unset]) rfl zk) ?_
          refine Go.st (T' := s₁) (g' := (mkF m 51 #[.val (.int x0), .val (.int x1), .val (.int (x1 &&& (7 : Int32))), .val (.int (118 : Int32)), .unset] [])) (fun _ zk => XS.goto X0.here hx rfl (pc0 := 45) (pc' := 51) rfl (hb hby at_45) (by decide) (by decide) zk) ?_
          refine Go.st (T' := s₁) (g' := (mkF m 52 #[.val (.int x0), .val (.int x1), .val (.int (x1 &&& (7 : Int32))), .val (.int (118 : Int32)), .unset] [(.int (118 : Int32))])) (fun _ zk => XS.iloadN X0.here hx rfl (hb hby at_51) rfl zk) ?_
          refine Go.st (T' := s₁) (g' := (mkF m 54 #[.val (.int x0), .val (.int x1), .val (.int (x1 &&& (7 : Int32))), .val (.int (118 : Int32)), .unset] [(.int (104 : Int32)), (.int (118 : Int32))])) (fun _ zk => XS.bipush X0.here hx rfl (hb hby at_52) zk) ?_
          refine Go.st (T' := s₁) (g' := (mkF m 65 #[.val (.int x0), .val (.int x1), .val (.int (x1 &&& (7 : Int32))), .val (.int (118 : Int32)), .unset] [])) (fun _ zk => XS.icmpYes X0.here hx rfl (pc0 := 54) (pc' := 65) rfl (hb hby at_54) rfl (feq ((by decide) : ¬ ((118 : Int32) = (104 : Int32)))).2 (by decide) (by decide) zk) ?_
          refine Go.st (T' := s₁) (g' := (mkF m 66 #[.val (.int x0), .val (.int x1), .val (.int (x1 &&& (7 : Int32))), .val (.int (118 : Int32)), .unset] [(.int (118 : Int32))])) (fun _ zk => XS.iloadN X0.here hx rfl (hb hby at_65) rfl zk) ?_
          refine Go.st (T' := s₁) (g' := (mkF m 68 #[.val (.int x0), .val (.int x1), .val (.int (x1 &&& (7 : Int32))), .val (.int (118 : Int32)), .unset] [(.int (86 : Int32)), (.int (118 : Int32))])) (fun _ zk => XS.bipush X0.here hx rfl (hb hby at_66) zk) ?_
          refine Go.st (T' := s₁) (g' := (mkF m 79 #[.val (.int x0), .val (.int x1), .val (.int (x1 &&& (7 : Int32))), .val (.int (118 : Int32)), .unset] [])) (fun _ zk => XS.icmpYes X0.here hx rfl (pc0 := 68) (pc' := 79) rfl (hb hby at_68) rfl (feq ((by decide) : ¬ ((118 : Int32) = (86 : Int32)))).2 (by decide) (by decide) zk) ?_
          refine Go.st (T' := s₁) (g' := (mkF m 80 #[.val (.int x0), .val (.int x1), .val (.int (x1 &&& (7 : Int32))), .val (.int (118 : Int32)), .unset] [.null])) (fun _ zk => XS.aconstNull X0.here hx rfl (hb hby at_79) zk) ?_
          refine Go.st (T' := s₁) (g' := (mkF m 82 #[.val (.int x0), .val (.int x1), .val (.int (x1 &&& (7 : Int32))), .val (.int (118 : Int32)), .val .null] [])) (fun _ zk => XS.astore X0.here hx rfl (hb hby at_80) rfl rfl (l' := #[.val (.int x0), .val (.int x1), .val (.int (x1 &&& (7 : Int32))), .val (.int (118 : Int32)), .val .null]) rfl zk) ?_
          refine Go.st (T' := s₁) (g' := (mkF m 83 #[.val (.int x0), .val (.int x1), .val (.int (x1 &&& (7 : Int32))), .val (.int (118 : Int32)), .val .null] [(.int (118 : Int32))])) (fun _ zk => XS.iloadN X0.here hx rfl (hb hby at_82) rfl zk) ?_
          refine Go.callSt (y := (⟨"com/example/tierbook/tierbook/cli/Flag", "ofLetter", "(C)Lcom/example/tierbook/tierbook/cli/Flag;"⟩ : MethodName)) X0 hx hZ hown e0 (w0 hw) (w1 hw) (w2 hw) (w3 hw) (by decide) (argsL := [(.int (118 : Int32))]) (rest := []) (W := 0) (rm_ofLetter l Z a0 hw [] (118 : Int32) vA hA rA kV h0 n0 Z0 O0 SV EV FV LH LV) rfl (lenOf pd2 rfl) rfl (by rw [hml]; rfl) rfl (by show 2 * 0 + _ ≤ _; exact Nat.le_of_eq rfl) (by decide) (by decide) (by decide) (by decide) (hb hby at_83) ?_
          intro v6 T6 h6 L6 X6 e6 q6
          obtain ⟨hv6, Nf6, E6⟩ := q6
          rw [if_neg (show ¬ ((118 : Int32) = 104) by decide), if_neg (show ¬ ((118 : Int32) = 86) by decide)] at hv6
          subst hv6
          have N6 := Fr.app N0 Nf6
          show Go p.tables e below _ T6 (mkF m 86 #[.val (.int x0), .val (.int x1), .val (.int (x1 &&& (7 : Int32))), .val (.int (118 : Int32)), .val .null] [.null])
          refine Go.st (T' := T6) (g' := (mkF m 88 #[.val (.int x0), .val (.int x1), .val (.int (x1 &&& (7 : Int32))), .val (.int (118 : Int32)), .val .null] [.null, .null])) (fun _ zk => XS.aload X6.here hx rfl (hb hby at_86) rfl rfl zk) ?_
          refine Go.st (T' := T6) (g' := (mkF m 91 #[.val (.int x0), .val (.int x1), .val (.int (x1 &&& (7 : Int32))), .val (.int (118 : Int32)), .val .null] [])) (fun _ zk => Jvm.RoadKit.acmp (g := (mkF m 88 #[.val (.int x0), .val (.int x1), .val (.int (x1 &&& (7 : Int32))), .val (.int (118 : Int32)), .val .null] [.null, .null])) X6 hx rfl rfl rfl (pc0 := 88) (pc' := 91) (same := true) rfl (hb hby at_88) rfl (decide_eq_true rfl) (by decide) (by decide) zk) ?_
          refine Go.st (T' := T6) (g' := (mkF m 92 #[.val (.int x0), .val (.int x1), .val (.int (x1 &&& (7 : Int32))), .val (.int (118 : Int32)), .val .null] [(.int (1 : Int32))])) (fun _ zk => XS.iconst X6.here hx rfl (hb hby at_91) zk) ?_
          refine Go.st (T' := T6) (g' := (mkF m 96 #[.val (.int x0), .val (.int x1), .val (.int (x1 &&& (7 : Int32))), .val (.int (118 : Int32)), .val .null] [(.int (1 : Int32))])) (fun _ zk => XS.goto X6.here hx rfl (pc0 := 92) (pc' := 96) rfl (hb hby at_92) (by decide) (by decide) zk) ?_
          refine Go.retN X6 hx hlk hret rfl (by simp) (hb hby at_96) (by decide) (by decide) e6 ?_
          exact ⟨rfl, N6⟩
        · refine Go.st (T' := s₁) (g' := (mkF m 48 #[.val (.int x0), .val (.int x1), .val (.int (x1 &&& (7 : Int32))), .unset, .unset] [])) (fun _ zk => XS.icmpYes X0.here hx rfl (pc0 := 39) (pc' := 48) rfl (hb hby at_39) rfl (feq hc39).2 (by decide) (by decide) zk) ?_
          refine Go.st (T' := s₁) (g' := (mkF m 49 #[.val (.int x0), .val (.int x1), .val (.int (x1 &&& (7 : Int32))), .unset, .unset] [(.int x0)])) (fun _ zk => XS.iloadN X0.here hx rfl (hb hby at_48) rfl zk) ?_
          refine Go.st (T' := s₁) (g' := (mkF m 50 #[.val (.int x0), .val (.int x1), .val (.int (x1 &&& (7 : Int32))), .unset, .unset] [(.int (x0.toUInt32.toUInt16.toUInt32.toInt32))])) (fun _ zk => XS.i2c X0.here hx rfl (hb hby at_49) rfl zk) ?_
          refine Go.st (T' := s₁) (g' := (mkF m 51 #[.val (.int x0), .val (.int x1), .val (.int (x1 &&& (7 : Int32))), .val (.int (x0.toUInt32.toUInt16.toUInt32.toInt32)), .unset] [])) (fun _ zk => XS.istoreN X0.here hx rfl (hb hby at_50) rfl (l' := #[.val (.int x0), .val (.int x1), .val (.int (x1 &&& (7 : Int32))), .val (.int (x0.toUInt32.toUInt16.toUInt32.toInt32)), .unset]) rfl zk) ?_
          refine Go.st (T' := s₁) (g' := (mkF m 52 #[.val (.int x0), .val (.int x1), .val (.int (x1 &&& (7 : Int32))), .val (.int (x0.toUInt32.toUInt16.toUInt32.toInt32)), .unset] [(.int (x0.toUInt32.toUInt16.toUInt32.toInt32))])) (fun _ zk => XS.iloadN X0.here hx rfl (hb hby at_51) rfl zk) ?_
          refine Go.st (T' := s₁) (g' := (mkF m 54 #[.val (.int x0), .val (.int x1), .val (.int (x1 &&& (7 : Int32))), .val (.int (x0.toUInt32.toUInt16.toUInt32.toInt32)), .unset] [(.int (104 : Int32)), (.int (x0.toUInt32.toUInt16.toUInt32.toInt32))])) (fun _ zk => XS.bipush X0.here hx rfl (hb hby at_52) zk) ?_
          by_cases hc54 : (x0.toUInt32.toUInt16.toUInt32.toInt32) = (104 : Int32)
          · refine Go.st (T' := s₁) (g' := (mkF m 57 #[.val (.int x0), .val (.int x1), .val (.int (x1 &&& (7 : Int32))), .val (.int (x0.toUInt32.toUInt16.toUInt32.toInt32)), .unset] [])) (fun _ zk => XS.icmpNo X0.here hx rfl (hb hby at_54) rfl (teq hc54).2 zk) ?_
            obtain ⟨T7, X7, e7, st7⟩ := getS2 X0 hx hZ hown (host := "") (Or.inl (w24 hw)) Via.refl e0 (SH.ext O0.2) (g := (mkF m 57 #[.val (.int x0), .val (.int x1), .val (.int (x1 &&& (7 : Int32))), .val (.int (x0.toUInt32.toUInt16.toUInt32.toInt32)), .unset] [])) rfl (hb hby at_57)
            refine Go.st (T' := T7) (g' := (mkF m 60 #[.val (.int x0), .val (.int x1), .val (.int (x1 &&& (7 : Int32))), .val (.int (x0.toUInt32.toUInt16.toUInt32.toInt32)), .unset] [(.ref hA)])) (fun _ zk => st7 _ zk) ?_
            refine Go.st (T' := T7) (g' := (mkF m 62 #[.val (.int x0), .val (.int x1), .val (.int (x1 &&& (7 : Int32))), .val (.int (x0.toUInt32.toUInt16.toUInt32.toInt32)), .val (.ref hA)] [])) (fun _ zk => XS.astore X7.here hx rfl (hb hby at_60) rfl rfl (l' := #[.val (.int x0), .val (.int x1), .val (.int (x1 &&& (7 : Int32))), .val (.int (x0.toUInt32.toUInt16.toUInt32.toInt32)), .val (.ref hA)]) rfl zk) ?_
            refine Go.st (T' := T7) (g' := (mkF m 82 #[.val (.int x0), .val (.int x1), .val (.int (x1 &&& (7 : Int32))), .val (.int (x0.toUInt32.toUInt16.toUInt32.toInt32)), .val (.ref hA)] [])) (fun _ zk => XS.goto X7.here hx rfl (pc0 := 62) (pc' := 82) rfl (hb hby at_62) (by decide) (by decide) zk) ?_
            refine Go.st (T' := T7) (g' := (mkF m 83 #[.val (.int x0), .val (.int x1), .val (.int (x1 &&& (7 : Int32))), .val (.int (x0.toUInt32.toUInt16.toUInt32.toInt32)), .val (.ref hA)] [(.int (x0.toUInt32.toUInt16.toUInt32.toInt32))])) (fun _ zk => XS.iloadN X7.here hx rfl (hb hby at_82) rfl zk) ?_
            refine Go.callSt (y := (⟨"com/example/tierbook/tierbook/cli/Flag", "ofLetter", "(C)Lcom/example/tierbook/tierbook/cli/Flag;"⟩ : MethodName)) X7 hx hZ hown e7 (w0 hw) (w1 hw) (w2 hw) (w3 hw) (by decide) (argsL := [(.int (x0.toUInt32.toUInt16.toUInt32.toInt32))]) (rest := []) (W := 0) (rm_ofLetter l Z a0 hw [] (x0.toUInt32.toUInt16.toUInt32.toInt32) vA hA rA kV h0 n0 Z0 O0 SV EV FV LH LV) rfl (lenOf pd2 rfl) rfl (by rw [hml]; rfl) rfl (by show 2 * 0 + _ ≤ _; exact Nat.le_of_eq rfl) (by decide) (by decide) (by decide) (by decide) (hb hby at_83) ?_
            intro v8 T8 h8 L8 X8 e8 q8
            obtain ⟨hv8, Nf8, E8⟩ := q8
            rw [if_pos hc54] at hv8
            subst hv8
            have N8 := Fr.app N0 Nf8
            show Go p.tables e below _ T8 (mkF m 86 #[.val (.int x0), .val (.int x1), .val (.int (x1 &&& (7 : Int32))), .val (.int (x0.toUInt32.toUInt16.toUInt32.toInt32)), .val (.ref hA)] [(.ref hA)])
            refine Go.st (T' := T8) (g' := (mkF m 88 #[.val (.int x0), .val (.int x1), .val (.int (x1 &&& (7 : Int32))), .val (.int (x0.toUInt32.toUInt16.toUInt32.toInt32)), .val (.ref hA)] [(.ref hA), (.ref hA)])) (fun _ zk => XS.aload X8.here hx rfl (hb hby at_86) rfl rfl zk) ?_
            refine Go.st (T' := T8) (g' := (mkF m 91 #[.val (.int x0), .val (.int x1), .val (.int (x1 &&& (7 : Int32))), .val (.int (x0.toUInt32.toUInt16.toUInt32.toInt32)), .val (.ref hA)] [])) (fun _ zk => Jvm.RoadKit.acmp (g := (mkF m 88 #[.val (.int x0), .val (.int x1), .val (.int (x1 &&& (7 : Int32))), .val (.int (x0.toUInt32.toUInt16.toUInt32.toInt32)), .val (.ref hA)] [(.ref hA), (.ref hA)])) X8 hx rfl rfl rfl (pc0 := 88) (pc' := 91) (same := true) rfl (hb hby at_88) rfl (decide_eq_true rfl) (by decide) (by decide) zk) ?_
            refine Go.st (T' := T8) (g' := (mkF m 92 #[.val (.int x0), .val (.int x1), .val (.int (x1 &&& (7 : Int32))), .val (.int (x0.toUInt32.toUInt16.toUInt32.toInt32)), .val (.ref hA)] [(.int (1 : Int32))])) (fun _ zk => XS.iconst X8.here hx rfl (hb hby at_91) zk) ?_
            refine Go.st (T' := T8) (g' := (mkF m 96 #[.val (.int x0), .val (.int x1), .val (.int (x1 &&& (7 : Int32))), .val (.int (x0.toUInt32.toUInt16.toUInt32.toInt32)), .val (.ref hA)] [(.int (1 : Int32))])) (fun _ zk => XS.goto X8.here hx rfl (pc0 := 92) (pc' := 96) rfl (hb hby at_92) (by decide) (by decide) zk) ?_
            refine Go.retN X8 hx hlk hret rfl (by simp) (hb hby at_96) (by decide) (by decide) e8 ?_
            exact ⟨rfl, N8⟩
          · refine Go.st (T' := s₁) (g' := (mkF m 65 #[.val (.int x0), .val (.int x1), .val (.int (x1 &&& (7 : Int32))), .val (.int (x0.toUInt32.toUInt16.toUInt32.toInt32)), .unset] [])) (fun _ zk => XS.icmpYes X0.here hx rfl (pc0 := 54) (pc' := 65) rfl (hb hby at_54) rfl (feq hc54).2 (by decide) (by decide) zk) ?_
            refine Go.st (T' := s₁) (g' := (mkF m 66 #[.val (.int x0), .val (.int x1), .val (.int (x1 &&& (7 : Int32))), .val (.int (x0.toUInt32.toUInt16.toUInt32.toInt32)), .unset] [(.int (x0.toUInt32.toUInt16.toUInt32.toInt32))])) (fun _ zk => XS.iloadN X0.here hx rfl (hb hby at_65) rfl zk) ?_
            refine Go.st (T' := s₁) (g' := (mkF m 68 #[.val (.int x0), .val (.int x1), .val (.int (x1 &&& (7 : Int32))), .val (.int (x0.toUInt32.toUInt16.toUInt32.toInt32)), .unset] [(.int (86 : Int32)), (.int (x0.toUInt32.toUInt16.toUInt32.toInt32))])) (fun _ zk => XS.bipush X0.here hx rfl (hb hby at_66) zk) ?_
            by_cases hc68 : (x0.toUInt32.toUInt16.toUInt32.toInt32) = (86 : Int32)
            · refine Go.st (T' := s₁) (g' := (mkF m 71 #[.val (.int x0), .val (.int x1), .val (.int (x1 &&& (7 : Int32))), .val (.int (x0.toUInt32.toUInt16.toUInt32.toInt32)), .unset] [])) (fun _ zk => XS.icmpNo X0.here hx rfl (hb hby at_68) rfl (teq hc68).2 zk) ?_
              obtain ⟨T9, X9, e9, st9⟩ := getS2 X0 hx hZ hown (host := "") (Or.inl (w23 hw)) Via.refl e0 (SR.ext O0.2) (g := (mkF m 71 #[.val (.int x0), .val (.int x1), .val (.int (x1 &&& (7 : Int32))), .val (.int (x0.toUInt32.toUInt16.toUInt32.toInt32)), .unset] [])) rfl (hb hby at_71)
              refine Go.st (T' := T9) (g' := (mkF m 74 #[.val (.int x0), .val (.int x1), .val (.int (x1 &&& (7 : Int32))), .val (.int (x0.toUInt32.toUInt16.toUInt32.toInt32)), .unset] [(.ref rA)])) (fun _ zk => st9 _ zk) ?_
              refine Go.st (T' := T9) (g' := (mkF m 76 #[.val (.int x0), .val (.int x1), .val (.int (x1 &&& (7 : Int32))), .val (.int (x0.toUInt32.toUInt16.toUInt32.toInt32)), .val (.ref rA)] [])) (fun _ zk => XS.astore X9.here hx rfl (hb hby at_74) rfl rfl (l' := #[.val (.int x0), .val (.int x1), .val (.int (x1 &&& (7 : Int32))), .val (.int (x0.toUInt32.toUInt16.toUInt32.toInt32)), .val (.ref rA)]) rfl zk) ?_
              refine Go.st (T' := T9) (g' := (mkF m 82 #[.val (.int x0), .val (.int x1), .val (.int (x1 &&& (7 : Int32))), .val (.int (x0.toUInt32.toUInt16.toUInt32.toInt32)), .val (.ref rA)] [])) (fun _ zk => XS.goto X9.here hx rfl (pc0 := 76) (pc' := 82) rfl (hb hby at_76) (by decide) (by decide) zk) ?_
              refine Go.st (T' := T9) (g' := (mkF m 83 #[.val (.int x0), .val (.int x1), .val (.int (x1 &&& (7 : Int32))), .val (.int (x0.toUInt32.toUInt16.toUInt32.toInt32)), .val (.ref rA)] [(.int (x0.toUInt32.toUInt16.toUInt32.toInt32))])) (fun _ zk => XS.iloadN X9.here hx rfl (hb hby at_82) rfl zk) ?_
              refine Go.callSt (y := (⟨"com/example/tierbook/tierbook/cli/Flag", "ofLetter", "(C)Lcom/example/tierbook/tierbook/cli/Flag;"⟩ : MethodName)) X9 hx hZ hown e9 (w0 hw) (w1 hw) (w2 hw) (w3 hw) (by decide) (argsL := [(.int (x0.toUInt32.toUInt16.toUInt32.toInt32))]) (rest := []) (W := 0) (rm_ofLetter l Z a0 hw [] (x0.toUInt32.toUInt16.toUInt32.toInt32) vA hA rA kV h0 n0 Z0 O0 SV EV FV LH LV) rfl (lenOf pd2 rfl) rfl (by rw [hml]; rfl) rfl (by show 2 * 0 + _ ≤ _; exact Nat.le_of_eq rfl) (by decide) (by decide) (by decide) (by decide) (hb hby at_83) ?_
              intro v10 T10 h10 L10 X10 e10 q10
              obtain ⟨hv10, Nf10, E10⟩ := q10
              rw [if_neg hc54, if_pos hc68] at hv10
              subst hv10
              have N10 := Fr.app N0 Nf10
              show Go p.tables e below _ T10 (mkF m 86 #[.val (.int x0), .val (.int x1), .val (.int (x1 &&& (7 : Int32))), .val (.int (x0.toUInt32.toUInt16.toUInt32.toInt32)), .val (.ref rA)] [(.ref rA)])
              refine Go.st (T' := T10) (g' := (mkF m 88 #[.val (.int x0), .val (.int x1), .val (.int (x1 &&& (7 : Int32))), .val (.int (x0.toUInt32.toUInt16.toUInt32.toInt32)), .val (.ref rA)] [(.ref rA), (.ref rA)])) (fun _ zk => XS.aload X10.here hx rfl (hb hby at_86) rfl rfl zk) ?_
              refine Go.st (T' := T10) (g' := (mkF m 91 #[.val (.int x0), .val (.int x1), .val (.int (x1 &&& (7 : Int32))), .val (.int (x0.toUInt32.toUInt16.toUInt32.toInt32)), .val (.ref rA)] [])) (fun _ zk => Jvm.RoadKit.acmp (g := (mkF m 88 #[.val (.int x0), .val (.int x1), .val (.int (x1 &&& (7 : Int32))), .val (.int (x0.toUInt32.toUInt16.toUInt32.toInt32)), .val (.ref rA)] [(.ref rA), (.ref rA)])) X10 hx rfl rfl rfl (pc0 := 88) (pc' := 91) (same := true) rfl (hb hby at_88) rfl (decide_eq_true rfl) (by decide) (by decide) zk) ?_
              refine Go.st (T' := T10) (g' := (mkF m 92 #[.val (.int x0), .val (.int x1), .val (.int (x1 &&& (7 : Int32))), .val (.int (x0.toUInt32.toUInt16.toUInt32.toInt32)), .val (.ref rA)] [(.int (1 : Int32))])) (fun _ zk => XS.iconst X10.here hx rfl (hb hby at_91) zk) ?_
              refine Go.st (T' := T10) (g' := (mkF m 96 #[.val (.int x0), .val (.int x1), .val (.int (x1 &&& (7 : Int32))), .val (.int (x0.toUInt32.toUInt16.toUInt32.toInt32)), .val (.ref rA)] [(.int (1 : Int32))])) (fun _ zk => XS.goto X10.here hx rfl (pc0 := 92) (pc' := 96) rfl (hb hby at_92) (by decide) (by decide) zk) ?_
              refine Go.retN X10 hx hlk hret rfl (by simp) (hb hby at_96) (by decide) (by decide) e10 ?_
              exact ⟨rfl, N10⟩
            · refine Go.st (T' := s₁) (g' := (mkF m 79 #[.val (.int x0), .val (.int x1), .val (.int (x1 &&& (7 : Int32))), .val (.int (x0.toUInt32.toUInt16.toUInt32.toInt32)), .unset] [])) (fun _ zk => XS.icmpYes X0.here hx rfl (pc0 := 68) (pc' := 79) rfl (hb hby at_68) rfl (feq hc68).2 (by decide) (by decide) zk) ?_
              refine Go.st (T' := s₁) (g' := (mkF m 80 #[.val (.int x0), .val (.int x1), .val (.int (x1 &&& (7 : Int32))), .val (.int (x0.toUInt32.toUInt16.toUInt32.toInt32)), .unset] [.null])) (fun _ zk => XS.aconstNull X0.here hx rfl (hb hby at_79) zk) ?_
              refine Go.st (T' := s₁) (g' := (mkF m 82 #[.val (.int x0), .val (.int x1), .val (.int (x1 &&& (7 : Int32))), .val (.int (x0.toUInt32.toUInt16.toUInt32.toInt32)), .val .null] [])) (fun _ zk => XS.astore X0.here hx rfl (hb hby at_80) rfl rfl (l' := #[.val (.int x0), .val (.int x1), .val (.int (x1 &&& (7 : Int32))), .val (.int (x0.toUInt32.toUInt16.toUInt32.toInt32)), .val .null]) rfl zk) ?_
              refine Go.st (T' := s₁) (g' := (mkF m 83 #[.val (.int x0), .val (.int x1), .val (.int (x1 &&& (7 : Int32))), .val (.int (x0.toUInt32.toUInt16.toUInt32.toInt32)), .val .null] [(.int (x0.toUInt32.toUInt16.toUInt32.toInt32))])) (fun _ zk => XS.iloadN X0.here hx rfl (hb hby at_82) rfl zk) ?_
              refine Go.callSt (y := (⟨"com/example/tierbook/tierbook/cli/Flag", "ofLetter", "(C)Lcom/example/tierbook/tierbook/cli/Flag;"⟩ : MethodName)) X0 hx hZ hown e0 (w0 hw) (w1 hw) (w2 hw) (w3 hw) (by decide) (argsL := [(.int (x0.toUInt32.toUInt16.toUInt32.toInt32))]) (rest := []) (W := 0) (rm_ofLetter l Z a0 hw [] (x0.toUInt32.toUInt16.toUInt32.toInt32) vA hA rA kV h0 n0 Z0 O0 SV EV FV LH LV) rfl (lenOf pd2 rfl) rfl (by rw [hml]; rfl) rfl (by show 2 * 0 + _ ≤ _; exact Nat.le_of_eq rfl) (by decide) (by decide) (by decide) (by decide) (hb hby at_83) ?_
              intro v11 T11 h11 L11 X11 e11 q11
              obtain ⟨hv11, Nf11, E11⟩ := q11
              rw [if_neg hc54, if_neg hc68] at hv11
              subst hv11
              have N11 := Fr.app N0 Nf11
              show Go p.tables e below _ T11 (mkF m 86 #[.val (.int x0), .val (.int x1), .val (.int (x1 &&& (7 : Int32))), .val (.int (x0.toUInt32.toUInt16.toUInt32.toInt32)), .val .null] [.null])
              refine Go.st (T' := T11) (g' := (mkF m 88 #[.val (.int x0), .val (.int x1), .val (.int (x1 &&& (7 : Int32))), .val (.int (x0.toUInt32.toUInt16.toUInt32.toInt32)), .val .null] [.null, .null])) (fun _ zk => XS.aload X11.here hx rfl (hb hby at_86) rfl rfl zk) ?_
              refine Go.st (T' := T11) (g' := (mkF m 91 #[.val (.int x0), .val (.int x1), .val (.int (x1 &&& (7 : Int32))), .val (.int (x0.toUInt32.toUInt16.toUInt32.toInt32)), .val .null] [])) (fun _ zk => Jvm.RoadKit.acmp (g := (mkF m 88 #[.val (.int x0), .val (.int x1), .val (.int (x1 &&& (7 : Int32))), .val (.int (x0.toUInt32.toUInt16.toUInt32.toInt32)), .val .null] [.null, .null])) X11 hx rfl rfl rfl (pc0 := 88) (pc' := 91) (same := true) rfl (hb hby at_88) rfl (decide_eq_true rfl) (by decide) (by decide) zk) ?_
              refine Go.st (T' := T11) (g' := (mkF m 92 #[.val (.int x0), .val (.int x1), .val (.int (x1 &&& (7 : Int32))), .val (.int (x0.toUInt32.toUInt16.toUInt32.toInt32)), .val .null] [(.int (1 : Int32))])) (fun _ zk => XS.iconst X11.here hx rfl (hb hby at_91) zk) ?_
              refine Go.st (T' := T11) (g' := (mkF m 96 #[.val (.int x0), .val (.int x1), .val (.int (x1 &&& (7 : Int32))), .val (.int (x0.toUInt32.toUInt16.toUInt32.toInt32)), .val .null] [(.int (1 : Int32))])) (fun _ zk => XS.goto X11.here hx rfl (pc0 := 92) (pc' := 96) rfl (hb hby at_92) (by decide) (by decide) zk) ?_
              refine Go.retN X11 hx hlk hret rfl (by simp) (hb hby at_96) (by decide) (by decide) e11 ?_
              exact ⟨rfl, N11⟩
theorem w8 {a0 : Array Value} {Z : State} (hw : ∀ d ∈ tables_1, d.before a0 Z = true) : ((Jvm.Cond.laysStatic "com/example/tierbook/tierbook/cli/Flag" "$VALUES" "[Lcom/example/tierbook/tierbook/cli/Flag;")).before a0 Z = true := hw _ (List.mem_of_getElem? (i := 8) rfl)
theorem w16 {a0 : Array Value} {Z : State} (hw : ∀ d ∈ tables_1, d.before a0 Z = true) : ((Jvm.Cond.laysStatic "com/example/tierbook/tierbook/cli/Flag" "HELP" "Lcom/example/tierbook/tierbook/cli/Flag;")).before a0 Z = true := hw _ (List.mem_of_getElem? (i := 16) rfl)
theorem w17 {a0 : Array Value} {Z : State} (hw : ∀ d ∈ tables_1, d.before a0 Z = true) : ((Jvm.Cond.laysStatic "com/example/tierbook/tierbook/cli/Flag" "VERSION" "Lcom/example/tierbook/tierbook/cli/Flag;")).before a0 Z = true := hw _ (List.mem_of_getElem? (i := 17) rfl)
set_option maxRecDepth 65536 in
set_option maxHeartbeats 40000000 in
theorem comes_1 {Post : Tables → Env → Array Value → State → Outcome → State → Prop} (hpost : ∀ tb e args s v u, (limb_1_1.after args s (.returned v) u = true ∧ limb_1_2.after args s (.returned v) u = true ∧ True) → FrameEnd s (.returned v) u (Jvm.fieldLocs frame_1_writes args s ++ Jvm.arrayLocs frame_1_arrays args s ++ Jvm.staticLocs frame_1_statics s) 16 128 → Post tb e args s (.returned v) u) :
    ArmFor flags0 classFile x code maxLocals ret World_1 tables_1 room_1 Calls_1 rest_1 Pre_1 Post := by
  intro l hfl _ _ p e ha hc hk s m args below hf hA hF happ hP
  obtain ⟨hcalls, hrest, hpre⟩ := hP
  obtain ⟨-, -, -, hnamed, -, -, -, hat⟩ := (Spec.applies_iff hf).mp happ
  obtain ⟨hg, hn⟩ := and_e (Cond.before_iff.mp (show (Jvm.Cond.and given_1 narrow_1).before args s = true from hpre))
  obtain ⟨g0a, g0b⟩ := and_e hg
  obtain ⟨g1a, g1b⟩ := and_e g0b
  obtain ⟨w0', w1', rfl⟩ : ∃ w0' w1' : Value, args = #[w0', w1'] := by
    have hs : args.size = 2 := by simpa [Cond.value, given_1] using g0a
    obtain ⟨L⟩ := args
    match L, hs with
    | [w0', w1'], _ => exact ⟨w0', w1', rfl⟩
  have hw := fun d (hd : d ∈ tables_1) => atoms_spec (ws := Jvm.Cond.code x code maxLocals ret :: tables_1) hat d (List.mem_cons_of_mem _ hd)
  have hfit : Fit s := fun {y c} hc i hi => by
    obtain ⟨ha, rfl⟩ := Array.getElem?_eq_some_iff.mp hc
    have q := List.all_eq_true.mp ((Array.all_eq_true_iff_forall_mem.mp hF) _ (Array.getElem_mem ha)) i (List.mem_range.mpr hi)
    simpa [Array.getElem?_eq_getElem hi] using q
  obtain ⟨i0, ei0⟩ := is_v g1a
  obtain rfl : w0' = (.int i0) := Option.some.inj ei0
  obtain ⟨i1, ei1⟩ := is_v g1b
  obtain rfl : w1' = (.int i1) := Option.some.inj ei1
  obtain ⟨c0a, c0b⟩ := and_e hn
  obtain ⟨c1a, c1b⟩ := and_e c0b
  obtain ⟨c2a, c2b⟩ := and_e c1b
  obtain ⟨c3a, c3b⟩ := and_e c2b
  obtain ⟨c4a, c4b⟩ := and_e c3b
  obtain ⟨c5a, c5b⟩ := and_e c4b
  obtain ⟨c6a, c6b⟩ := and_e c5b
  obtain ⟨c7a, c7b⟩ := and_e c6b
  obtain ⟨sa0, ev0⟩ := exa_v c1a
  have sE0 : Exa s s.heap sa0 "[Lcom/example/tierbook/tierbook/cli/Flag;" := Exa.start ev0 c1a
  have sS0 : Sta s s.heap "com/example/tierbook/tierbook/cli/Flag" "$VALUES" "[Lcom/example/tierbook/tierbook/cli/Flag;" (.ref sa0) := Sta.start ev0 (Or.inr ⟨(w2 hw), (w8 hw)⟩)
  obtain ⟨sa1, ev1⟩ := exa_v c3a
  have sE1 : Exa s s.heap sa1 "com/example/tierbook/tierbook/cli/Flag" := Exa.start ev1 c3a
  have sS1 : Sta s s.heap "com/example/tierbook/tierbook/cli/Flag" "HELP" "Lcom/example/tierbook/tierbook/cli/Flag;" (.ref sa1) := Sta.start ev1 (Or.inr ⟨(w2 hw), (w16 hw)⟩)
  obtain ⟨sa2, ev2⟩ := exa_v c5a
  have sE2 : Exa s s.heap sa2 "com/example/tierbook/tierbook/cli/Flag" := Exa.start ev2 c5a
  have sS2 : Sta s s.heap "com/example/tierbook/tierbook/cli/Flag" "VERSION" "Lcom/example/tierbook/tierbook/cli/Flag;" (.ref sa2) := Sta.start ev2 (Or.inr ⟨(w2 hw), (w17 hw)⟩)
  have sF0 : Fld s s.heap sa1 "com/example/tierbook/tierbook/cli/Flag" "letter" "C" (.int (104 : Int32)) := Fld.start ((fld_at ev1).symm.trans (eqv_i rfl c7a))
  have sF1 : Fld s s.heap sa2 "com/example/tierbook/tierbook/cli/Flag" "letter" "C" (.int (86 : Int32)) := Fld.start ((fld_at ev2).symm.trans (eqv_i rfl c7b))
  obtain ⟨kV, FV⟩ := Arv.startL (dv := .null) (vs := [.ref sa1, .ref sa2]) hfit ev0 c0a c2a (by decide) rfl (fun c hc => ⟨(elem_in (eqv_r ev1 c4a) ev0 rfl hc).2, (elem_in (eqv_r ev2 c6a) ev0 rfl hc).2, trivial⟩)
  obtain ⟨n, o, h1, h2, h3, _, L, rfl, ⟨rfl, N⟩, hq⟩ := rm_law l s _ hw tables_1 i0 i1 sa0 sa1 sa2 kV s.heap s.heap.size (Nat.le_refl _) (Old.start s) sS0 sE0 FV sF0 sF1 sS1 sS2 p e ha hc hk s m _ below hf ((Spec.applies_iff_loose hf).mp happ).1 ⟨rfl, State.Warmed39.refl s, rfl⟩ trivial
  exact ⟨n, _, h1, h2, h3, hpost _ _ _ _ _ _ ⟨Cond.after_iff.mpr rfl, Cond.after_iff.mpr (eq_i res_at (Term.int_eval (1)) rfl), trivial⟩ ⟨hq.1, hq.2.1, (hq.2.2.sift fun y hy => Or.inr (N y hy)).mono (by decide) (by decide)⟩⟩
theorem main_1_1 : Claimed_1_1 := comes_1 fun _ _ _ _ _ _ h hF => ⟨h.1, hF⟩
theorem main_1_2 : Claimed_1_2 := comes_1 fun _ _ _ _ _ _ h hF => ⟨h.2.1, hF⟩
end Jvm.Pilot.@@N@@
namespace Jvm.Pilot.@@N@@
open Jvm Jvm.ClassFile Sem Op Lib Jvm.Free Jvm.Stand Jvm.Pilot.@@N@@.Jvm.D
/-! MADE BY PROGRAM (witnessworld.py) out of the Statement's table words and the real class files: 13 classes; the members and pool entries that the words name. The judged class is class 1, her method 1. -/
namespace start1
open Jvm.ClassFile
def u (s : String) : CpInfo := .utf8 (stringToUtf16 s)
/-- a pool by its gaps: so many unusable entries, then the entry; so many at the end -/
def gap : Nat → List CpInfo → List CpInfo
  | 0, r => r
  | n + 1, r => .unusable :: gap n r
def poolList (es : List (Nat × CpInfo)) (last : Nat) : List CpInfo := es.foldr (fun e r => gap e.1 (e.2 :: r)) (gap last [])
def pool (es : List (Nat × CpInfo)) (last : Nat) : Array CpInfo := ⟨poolList es last⟩
def fileOf (pool : Array CpInfo) (this : Nat) (attrs : Array Attribute := #[]) (ms : Array MethodInfo := #[]) (fl : Nat := 33) (sup : Nat := 0) (ifs : Array Nat := #[]) (fds : Array FieldInfo := #[]) : ClassFile where
  minorVersion := 0
  majorVersion := 65
  constantPool := pool
  accessFlags := fl
  thisClass := this
  superClass := sup
  interfaces := ifs
  fields := fds
  methods := ms
  attributes := attrs
def plain (name : String) (sup : Option ClassId) : Class where
  name := name
  kind := .ordinary
  loader := none
  accessFlags := 33
  super := sup
  interfaces := #[]
  cf := none
  fields := #[]
  methods := #[]
  instanceTypes := #[]
  staticTypes := #[]
  resolved := #[]
  callSites := []
  init := .initialized
  statics := none
  mirror := none

def pool0 : Array CpInfo := pool [(5, u "<init>"), (0, u "()V"), (1, .class_ 10), (1, u "java/lang/Object"), (85, u "clone"), (0, u "()Ljava/lang/Object;")] 26

def k0m0 : Method := { name := "<init>", desc := "()V", sig := { parameters := [], returnType := none }, accessFlags := 1, code := none }
def k0m1 : Method := { name := "clone", desc := "()Ljava/lang/Object;", sig := { parameters := [], returnType := some (.object "java/lang/Object") }, accessFlags := 260, code := none }
/-- java/lang/Object -/
def k0 : Class := { plain "java/lang/Object" none with
  accessFlags := 33
  interfaces := #[]
  cf := some (fileOf pool0 8 #[] #[{ accessFlags := 1, nameIndex := 5, descriptorIndex := 6, attributes := #[] }, { accessFlags := 260, nameIndex := 96, descriptorIndex := 97, attributes := #[] }] 33 0 #[] #[])
  fields := #[]
  methods := #[k0m0, k0m1]
  instanceTypes := #[]
  staticTypes := #[]
  resolved := Array.replicate 124 none
  statics := none }

def pool1 : Array CpInfo := pool [(2, .class_ 4), (1, u "java/lang/Object"), (0, u "<init>"), (0, u "()V"), (0, .fieldref 8 9), (0, .class_ 10), (0, .nameAndType 11 12), (0, u "com/example/tierbook/tierbook/cli/Flag"), (0, u "HELP"), (0, u "Lcom/example/tierbook/tierbook/cli/Flag;"), (0, .fieldref 8 14), (0, .nameAndType 15 12), (0, u "VERSION"), (0, .methodref 8 17), (0, .nameAndType 18 19), (0, u "ofLetter"), (0, u "(C)Lcom/example/tierbook/tierbook/cli/Flag;"), (0, .class_ 21), (0, u "com/example/tierbook/tierbook/cli/FlagOfLetterPinLaw"), (2, u "law"), (0, u "(II)Z")] 3

def k1m0 : Method := { name := "<init>", desc := "()V", sig := { parameters := [], returnType := none }, accessFlags := 2, code := none }
def k1c1 : Code := { maxStack := 2, maxLocals := 5, code := code, exceptionTable := #[], attributes := #[] }
def k1m1 : Method := { name := "law", desc := "(II)Z", sig := { parameters := [.int, .int], returnType := some .boolean }, accessFlags := 9, code := some k1c1 }
/-- com/example/tierbook/tierbook/cli/FlagOfLetterPinLaw -/
def k1 : Class := { plain "com/example/tierbook/tierbook/cli/FlagOfLetterPinLaw" (some 0) with
  accessFlags := 49
  interfaces := #[]
  cf := some (fileOf pool1 20 #[] #[{ accessFlags := 2, nameIndex := 5, descriptorIndex := 6, attributes := #[] }, { accessFlags := 9, nameIndex := 24, descriptorIndex := 25, attributes := #[] }] 49 2 #[] #[])
  fields := #[]
  methods := #[k1m0, k1m1]
  instanceTypes := #[]
  staticTypes := #[]
  resolved := Array.replicate 29 none
  statics := none }

def pool2 : Array CpInfo := pool [(1, .class_ 2), (0, u "java/lang/constant/Constable"), (0, .class_ 4), (0, u "java/lang/Object")] 6

/-- java/lang/constant/Constable -/
def k2 : Class := { plain "java/lang/constant/Constable" (some 0) with
  accessFlags := 1537
  interfaces := #[]
  cf := some (fileOf pool2 1 #[] #[] 1537 3 #[] #[])
  fields := #[]
  methods := #[]
  instanceTypes := #[]
  staticTypes := #[]
  resolved := Array.replicate 11 none
  statics := none }

def pool3 : Array CpInfo := pool [(1, .class_ 2), (0, u "java/lang/Comparable"), (0, .class_ 4), (0, u "java/lang/Object")] 7

/-- java/lang/Comparable -/
def k3 : Class := { plain "java/lang/Comparable" (some 0) with
  accessFlags := 1537
  interfaces := #[]
  cf := some (fileOf pool3 1 #[] #[] 1537 3 #[] #[])
  fields := #[]
  methods := #[]
  instanceTypes := #[]
  staticTypes := #[]
  resolved := Array.replicate 12 none
  statics := none }

def pool4 : Array CpInfo := pool [(1, .class_ 2), (0, u "java/io/Serializable"), (0, .class_ 4), (0, u "java/lang/Object")] 2

/-- java/io/Serializable -/
def k4 : Class := { plain "java/io/Serializable" (some 0) with
  accessFlags := 1537
  interfaces := #[]
  cf := some (fileOf pool4 1 #[] #[] 1537 3 #[] #[])
  fields := #[]
  methods := #[]
  instanceTypes := #[]
  staticTypes := #[]
  resolved := Array.replicate 7 none
  statics := none }

def pool5 : Array CpInfo := pool [(2, .class_ 4), (1, u "java/lang/Enum"), (0, u "name"), (0, u "Ljava/lang/String;"), (2, u "ordinal"), (0, u "I"), (1, .class_ 14), (1, u "java/lang/Object"), (4, u "hash"), (86, .class_ 108), (1, u "java/lang/Enum$EnumDesc"), (2, .class_ 112), (0, u "java/lang/constant/Constable"), (0, .class_ 114), (0, u "java/lang/Comparable"), (0, .class_ 116), (0, u "java/io/Serializable")] 87

/-- java/lang/Enum -/
def k5 : Class := { plain "java/lang/Enum" (some 0) with
  accessFlags := 1057
  interfaces := #[2, 3, 4]
  cf := some (fileOf pool5 2 #[.nestMembers #[106]] #[] 1057 12 #[111, 113, 115] #[{ accessFlags := 18, nameIndex := 5, descriptorIndex := 6, attributes := #[] }, { accessFlags := 18, nameIndex := 9, descriptorIndex := 10, attributes := #[] }, { accessFlags := 2, nameIndex := 19, descriptorIndex := 10, attributes := #[] }])
  fields := #[{ name := "name", type := (.object "java/lang/String"), accessFlags := 18, slot := 0, constantValue := 0 }, { name := "ordinal", type := .int, accessFlags := 18, slot := 1, constantValue := 0 }, { name := "hash", type := .int, accessFlags := 2, slot := 2, constantValue := 0 }]
  methods := #[]
  instanceTypes := #[(.object "java/lang/String"), .int, .int]
  staticTypes := #[]
  resolved := Array.replicate 204 none
  statics := none }

def pool6 : Array CpInfo := pool [(1, .class_ 2), (0, u "com/example/tierbook/tierbook/cli/Flag"), (2, u "HELP"), (0, u "Lcom/example/tierbook/tierbook/cli/Flag;"), (2, u "VERSION"), (0, .fieldref 1 11), (0, .nameAndType 12 13), (0, u "$VALUES"), (0, u "[Lcom/example/tierbook/tierbook/cli/Flag;"), (0, .methodref 15 16), (0, .class_ 13), (0, .nameAndType 17 18), (0, u "clone"), (0, u "()Ljava/lang/Object;"), (1, .class_ 22), (1, u "java/lang/Enum"), (6, .fieldref 1 30), (0, .nameAndType 31 32), (0, u "letter"), (0, u "C"), (2, u "name"), (0, u "Ljava/lang/String;"), (2, u "description"), (0, .methodref 1 41), (0, .nameAndType 42 43), (0, u "values"), (0, u "()[Lcom/example/tierbook/tierbook/cli/Flag;"), (42, u "ofLetter"), (0, u "(C)Lcom/example/tierbook/tierbook/cli/Flag;")] 23

def k6c0 : Code := { maxStack := 1, maxLocals := 0, code := prog_5_method_1_code, exceptionTable := #[], attributes := #[] }
def k6m0 : Method := { name := "values", desc := "()[Lcom/example/tierbook/tierbook/cli/Flag;", sig := { parameters := [], returnType := some (.array (.object "com/example/tierbook/tierbook/cli/Flag")) }, accessFlags := 9, code := some k6c0 }
def k6c1 : Code := { maxStack := 2, maxLocals := 5, code := prog_5_method_5_code, exceptionTable := #[], attributes := #[] }
def k6m1 : Method := { name := "ofLetter", desc := "(C)Lcom/example/tierbook/tierbook/cli/Flag;", sig := { parameters := [.char], returnType := some (.object "com/example/tierbook/tierbook/cli/Flag") }, accessFlags := 8, code := some k6c1 }
/-- com/example/tierbook/tierbook/cli/Flag -/
def k6 : Class := { plain "com/example/tierbook/tierbook/cli/Flag" (some 5) with
  accessFlags := 16432
  interfaces := #[]
  cf := some (fileOf pool6 1 #[] #[{ accessFlags := 9, nameIndex := 42, descriptorIndex := 43, attributes := #[] }, { accessFlags := 8, nameIndex := 86, descriptorIndex := 87, attributes := #[] }] 16432 20 #[] #[{ accessFlags := 16409, nameIndex := 5, descriptorIndex := 6, attributes := #[] }, { accessFlags := 16409, nameIndex := 9, descriptorIndex := 6, attributes := #[] }, { accessFlags := 18, nameIndex := 31, descriptorIndex := 32, attributes := #[] }, { accessFlags := 18, nameIndex := 35, descriptorIndex := 36, attributes := #[] }, { accessFlags := 18, nameIndex := 39, descriptorIndex := 36, attributes := #[] }, { accessFlags := 4122, nameIndex := 12, descriptorIndex := 13, attributes := #[] }])
  fields := #[{ name := "HELP", type := (.object "com/example/tierbook/tierbook/cli/Flag"), accessFlags := 16409, slot := 0, constantValue := 0 }, { name := "VERSION", type := (.object "com/example/tierbook/tierbook/cli/Flag"), accessFlags := 16409, slot := 1, constantValue := 0 }, { name := "letter", type := .char, accessFlags := 18, slot := 3, constantValue := 0 }, { name := "name", type := (.object "java/lang/String"), accessFlags := 18, slot := 4, constantValue := 0 }, { name := "description", type := (.object "java/lang/String"), accessFlags := 18, slot := 5, constantValue := 0 }, { name := "$VALUES", type := (.array (.object "com/example/tierbook/tierbook/cli/Flag")), accessFlags := 4122, slot := 2, constantValue := 0 }]
  methods := #[k6m0, k6m1]
  instanceTypes := #[(.object "java/lang/String"), .int, .int, .char, (.object "java/lang/String"), (.object "java/lang/String")]
  staticTypes := #[(.object "com/example/tierbook/tierbook/cli/Flag"), (.object "com/example/tierbook/tierbook/cli/Flag"), (.array (.object "com/example/tierbook/tierbook/cli/Flag"))]
  resolved := Array.replicate 111 none
  statics := some 0 }

def pool7 : Array CpInfo := pool [(1, .class_ 2), (0, u "java/lang/Cloneable"), (0, .class_ 4), (0, u "java/lang/Object")] 2

/-- java/lang/Cloneable -/
def k7 : Class := { plain "java/lang/Cloneable" (some 0) with
  accessFlags := 1537
  interfaces := #[]
  cf := some (fileOf pool7 1 #[] #[] 1537 3 #[] #[])
  fields := #[]
  methods := #[]
  instanceTypes := #[]
  staticTypes := #[]
  resolved := Array.replicate 7 none
  statics := none }

/-- the primitive byte -/
def k8 : Class := { plain "byte" none with kind := .primitive 'B', accessFlags := 0x411 }
/-- [B -/
def k9 : Class := { plain "[B" (some 0) with kind := .array 8 .byte, interfaces := #[7, 4], accessFlags := 1041 }

/-- the primitive int -/
def k10 : Class := { plain "int" none with kind := .primitive 'I', accessFlags := 0x411 }
/-- [I -/
def k11 : Class := { plain "[I" (some 0) with kind := .array 10 .int, interfaces := #[7, 4], accessFlags := 1041 }

/-- [Lcom/example/tierbook/tierbook/cli/Flag; -/
def k12 : Class := { plain "[Lcom/example/tierbook/tierbook/cli/Flag;" (some 0) with kind := .array 6 (.object "com/example/tierbook/tierbook/cli/Flag"), interfaces := #[7, 4], accessFlags := 1041 }

def heap : Heap := #[{ cls := 6, slots := #[.ref 2, .ref 3, .ref 1], vm := .statics 6 },
  { cls := 12, slots := #[.ref 2, .ref 3], vm := .none },
  { cls := 6, slots := #[.null, .int 0, .int 0, .int 104, .null, .null], vm := .none },
  { cls := 6, slots := #[.null, .int 1, .int 0, .int 86, .null, .null], vm := .none }]
def classes : Array Class := #[k0, k1, k2, k3, k4, k5, k6, k7, k8, k9, k10, k11, k12]
def interned : List (Array UInt16 × Addr) := []
def slotsUsed : Nat := 17
def theMethod : MethodId := ⟨1, 1⟩
def args0 : Array Value := #[.int 5, .int 6]
def aboutOver (below : List Frame) : State where
  vm := { classes := classes, interned := interned.toArray }
  heap := heap
  slotsUsed := slotsUsed
  threads := #[{ frames := .invoking theMethod args0 :: below }]
def below0 : List Frame := [.native { method := ⟨0, 0⟩, args := #[] }]
def about1 : State := aboutOver below0
def p0 : Program := .bare "" "" ""
def e0 : Env := launch0.env 0 0 0
theorem w_frames : about1.frames = Frame.invoking theMethod args0 :: below0 := rfl
set_option maxRecDepth 65536 in
theorem w_args : argsFit about1.vm theMethod args0 = true := by decide +kernel
set_option maxRecDepth 65536 in
theorem w_heap : heapFits about1 = true := by decide +kernel
set_option maxRecDepth 65536 in
theorem w_runnable : about1.curStatus? = some .runnable := by decide +kernel
set_option maxRecDepth 65536 in
theorem w_alone : about1.alone = true := by decide +kernel
set_option maxRecDepth 65536 in
theorem w_named : about1.methodNamed? x = some theMethod := by decide +kernel
set_option maxRecDepth 65536 in
theorem w_hears : about1.hears theMethod below0 = true := by decide +kernel
set_option maxRecDepth 65536 in
theorem w_ripe : about1.ripe theMethod args0 below0 = true := by decide +kernel
theorem w_running : about1.status = .running := rfl
set_option maxRecDepth 65536 in
theorem w_room : about1.hasRoom e0.platform room_1 = true :=
  launch0.hasRoom_least _ room_1 (by decide +kernel) (by decide +kernel) (by decide +kernel) (by decide +kernel) (by decide +kernel) (by decide +kernel)
theorem allAtoms_all (ts : List Jvm.Cond) (a : Array Jvm.Value) (st : Jvm.State) : (allAtoms ts).before a st = ts.all (fun c => c.before a st) := by
  induction ts with
  | nil => rfl
  | cons c t ih =>
    show (Jvm.Cond.and c (allAtoms t)).before a st = _
    rw [Jvm.Cond.before_and, ih, List.all_cons]
def words1 : List Jvm.Cond := Jvm.Cond.code x code maxLocals ret :: tables_1
/-- a 'code' word, met by the world's own term for the bytes: nothing is compared byte by byte -/
theorem code_word {y : MethodName} {bytes : ByteArray} {mx : Nat} {rt : Option FieldType} {a : Array Value} {s : State} {m : MethodId} {meth : Method} {c : Code} (h1 : s.methodNamed? y = some m) (h2 : s.vm.method? m = some meth) (h3 : meth.code = some c) (h4 : c.code = bytes)
    (h5 : (c.maxLocals == mx && c.exceptionTable.isEmpty && decide (c.maxStack ≤ mostOperands) && decide (meth.sig.returnType = rt) && !meth.locks && decide (parseMethodDescriptor y.desc = some meth.sig)) = true) : (Jvm.Cond.code y bytes mx rt).before a s = true := by
  simp only [Bool.and_eq_true, beq_iff_eq, Bool.not_eq_true', decide_eq_true_eq] at h5
  obtain ⟨⟨⟨⟨⟨g1, g2⟩, g3⟩, g4⟩, g5⟩, g6⟩ := h5
  simp [Cond.before, Cond.holds, Cond.value, h1, h2, h3, h4, g1, g2, g3, g4, g5, g6]
def isCode : Jvm.Cond → Bool
  | .code _ _ _ _ => true
  | _ => false
theorem all_split {L : List Jvm.Cond} {P : Jvm.Cond → Bool} (h1 : L.all (fun c => isCode c || P c) = true) (h2 : ∀ c ∈ L.filter isCode, P c = true) : L.all P = true := by
  refine List.all_eq_true.mpr fun c hc => ?_
  have h := List.all_eq_true.mp h1 c hc
  rcases Bool.eq_false_or_eq_true (isCode c) with hi | hi
  · exact h2 c (List.mem_filter.mpr ⟨hc, hi⟩)
  · simpa [hi] using h
set_option maxRecDepth 65536 in
theorem w_c0 : (Jvm.Cond.code x code maxLocals ret).before args0 about1 = true := code_word (m := ⟨1, 1⟩) (meth := k1m1) (c := k1c1) (by decide +kernel) rfl rfl rfl (by decide +kernel)
set_option maxRecDepth 65536 in
theorem w_c1 : (Jvm.Cond.code ({ cls := "com/example/tierbook/tierbook/cli/Flag", name := "ofLetter", desc := "(C)Lcom/example/tierbook/tierbook/cli/Flag;" } : Jvm.MethodName) prog_5_method_5_code (5 : Nat) (Option.some (Jvm.ClassFile.FieldType.object "com/example/tierbook/tierbook/cli/Flag"))).before args0 about1 = true := code_word (m := ⟨6, 1⟩) (meth := k6m1) (c := k6c1) (by decide +kernel) rfl rfl rfl (by decide +kernel)
set_option maxRecDepth 65536 in
theorem w_c2 : (Jvm.Cond.code ({ cls := "com/example/tierbook/tierbook/cli/Flag", name := "values", desc := "()[Lcom/example/tierbook/tierbook/cli/Flag;" } : Jvm.MethodName) prog_5_method_1_code (0 : Nat) (Option.some (Jvm.ClassFile.FieldType.array (Jvm.ClassFile.FieldType.object "com/example/tierbook/tierbook/cli/Flag")))).before args0 about1 = true := code_word (m := ⟨6, 0⟩) (meth := k6m0) (c := k6c0) (by decide +kernel) rfl rfl rfl (by decide +kernel)
def codes1 : List Jvm.Cond := [Jvm.Cond.code x code maxLocals ret, Jvm.Cond.code ({ cls := "com/example/tierbook/tierbook/cli/Flag", name := "ofLetter", desc := "(C)Lcom/example/tierbook/tierbook/cli/Flag;" } : Jvm.MethodName) prog_5_method_5_code (5 : Nat) (Option.some (Jvm.ClassFile.FieldType.object "com/example/tierbook/tierbook/cli/Flag")), Jvm.Cond.code ({ cls := "com/example/tierbook/tierbook/cli/Flag", name := "values", desc := "()[Lcom/example/tierbook/tierbook/cli/Flag;" } : Jvm.MethodName) prog_5_method_1_code (0 : Nat) (Option.some (Jvm.ClassFile.FieldType.array (Jvm.ClassFile.FieldType.object "com/example/tierbook/tierbook/cli/Flag")))]
set_option maxRecDepth 65536 in
theorem codes_eq : words1.filter isCode = codes1 := rfl
theorem w_codes : ∀ c ∈ words1.filter isCode, c.before args0 about1 = true := by
  rw [codes_eq]
  intro c hc
  simp only [codes1, List.mem_cons, List.not_mem_nil, or_false] at hc
  rcases hc with rfl | rfl | rfl
  · exact w_c0
  · exact w_c1
  · exact w_c2
set_option maxRecDepth 65536 in
theorem w_t1 : (words1.take 24).all (fun c => isCode c || c.before args0 about1) = true := by decide +kernel
set_option maxRecDepth 65536 in
theorem w_t2 : (words1.drop 24).all (fun c => isCode c || c.before args0 about1) = true := by decide +kernel
theorem w_tables : (allAtoms (Jvm.Cond.code x code maxLocals ret :: tables_1)).before args0 about1 = true := by
  rw [allAtoms_all]
  show words1.all (fun c => c.before args0 about1) = true
  refine all_split ?_ w_codes
  rw [← List.take_append_drop 24 words1, List.all_append, w_t1, w_t2]
  rfl
set_option maxRecDepth 65536 in
theorem w_case : (Jvm.Cond.and given_1 narrow_1).before args0 about1 = true := by decide +kernel
theorem w_applies : (headSpec (Jvm.Cond.code x code maxLocals ret :: tables_1) room_1).applies x e0.platform about1 = true :=
  (Spec.applies_iff w_frames).mpr ⟨w_running, w_runnable, w_alone, w_named, w_hears, w_ripe, w_room, w_tables⟩
theorem atStart : AtStart classFile x code maxLocals ret World_1 tables_1 room_1 Calls_1 rest_1 Pre_1 launch0 p0 e0 about1 theMethod args0 below0 :=
  ⟨lists_1, trivial, launch0.admits_env _ _ _, launch0.least_env, fairChoices_fair.cas, fairChoices_fair.clock, w_frames, w_args, w_heap, w_applies, trivial, trivial, w_case⟩
end start1
theorem witness_1 : WitnessClaimed_1 := ⟨start1.p0, start1.e0, start1.about1, start1.theMethod, start1.args0, start1.below0, start1.atStart⟩
end Jvm.Pilot.@@N@@
