import JvmDerived
import JvmDerived.Pilot.@@N@@Statement
import JvmDerived.Pilot.@@N@@Code
set_option linter.unusedVariables false
set_option linter.unusedSimpArgs false
namespace Jvm.RoadKit
open Sem ClassFile Op Lib Jvm.Stand Jvm.Free Jvm.LawKit
section OwnGo
variable {p : Program} {l : Launch} {e : Env} {R : Room} {s : State} {m : MethodId} {args : Array Value} {below : List Frame} {meth : Method} {c : Code} {T T' : State} {locs : List Loc} {cells slots : Nat} {tb : Tables} {P : State → Outcome → Prop} {g g' : JFrame} {Z : State} {a0 : Array Value} {h h' : Heap}
/-- from here the run goes on to an end that P says -/
def Go (tb : Tables) (e : Env) (below : List Frame) (P : State → Outcome → Prop) (T : State) (g : JFrame) : Prop :=
  ∃ u o, Steps tb e below (T.setTop g) u ∧ u.status = .running ∧ Ended u below o ∧ P u o
theorem Go.st (st : ∀ target, Steps tb e below (T'.setTop g') target → Steps tb e below (T.setTop g) target) (k : Go tb e below P T' g') : Go tb e below P T g := by
  obtain ⟨u, o, h1, h2⟩ := k
  exact ⟨u, o, st u h1, h2⟩
theorem Go.tr (st : Steps tb e below (T.setTop g) (T'.setTop g')) (k : Go tb e below P T' g') : Go tb e below P T g := Go.st (fun _ h => st.trans h) k
theorem Go.cast (q : g = g') (k : Go tb e below P T g') : Go tb e below P T g := q ▸ k
/-- the end of a body that interns nothing -/
def FinP (s : State) (Q : Option Value → Heap → List Loc → Prop) (K N : Nat) (u : State) (o : Outcome) : Prop := ∃ v L, o = .returned v ∧ Q v u.heap L ∧ FrameEnd s o u L K N
theorem Go.retN {Q : Option Value → Heap → List Loc → Prop} {K N : Nat} (X : Stand p l e R s m args below meth c T locs cells slots) (hx : p.tables.exec = Jvm.exec) (hlk : meth.locks = false) {pc : Nat} {Ls : Array Slot} {z : Int32} {t : FieldType} {rest : List Value} (hret : meth.sig.returnType = some t)
    (hn : narrow t (.int z) = .int z) (ht : t = .int ∨ t = .boolean ∨ t = .byte ∨ t = .char ∨ t = .short) (hd : decode c.code pc = .ok (.ireturn, 1)) (hK : cells ≤ K) (hN : slots ≤ N) (eT : T.heap = h) (hQ : Q (some (.int z)) h locs) : Go p.tables e below (FinP s Q K N) T (mkF m pc Ls (.int z :: rest)) := by
  obtain ⟨fs, hr, hrun, hended, hW, hsame⟩ := X.leave (v := some (.int z)) (fun h => by rw [hret] at h; cases h) hlk
  exact ⟨_, _, retOut X hx hret hn (Or.inl ⟨rfl, ht, z, rfl⟩) hd hr, hrun, hended, _, _, rfl, (by rw [show (T.setFrames fs).heap = h from eT]; exact hQ), ⟨_, rfl⟩, hW, hsame.mono hK hN⟩
theorem Go.retL {Q : Option Value → Heap → List Loc → Prop} {K N : Nat} (X : Stand p l e R s m args below meth c T locs cells slots) (hx : p.tables.exec = Jvm.exec) (hlk : meth.locks = false) {pc : Nat} {Ls : Array Slot} {z : Int64} {rest : List Value} (hret : meth.sig.returnType = some .long)
    (hd : decode c.code pc = .ok (.lreturn, 1)) (hK : cells ≤ K) (hN : slots ≤ N) (eT : T.heap = h) (hQ : Q (some (.long z)) h locs) : Go p.tables e below (FinP s Q K N) T (mkF m pc Ls (.long z :: rest)) := by
  obtain ⟨fs, hr, hrun, hended, hW, hsame⟩ := X.leave (v := some (.long z)) (fun h => by rw [hret] at h; cases h) hlk
  exact ⟨_, _, retOut X hx hret rfl (Or.inr (Or.inl ⟨rfl, rfl, z, rfl⟩)) hd hr, hrun, hended, _, _, rfl, (by rw [show (T.setFrames fs).heap = h from eT]; exact hQ), ⟨_, rfl⟩, hW, hsame.mono hK hN⟩
theorem narrow_ref {t : FieldType} {w : Value} (ht : t.isReference = true) : narrow t w = w := by cases t <;> first | rfl | (cases w <;> rfl) | (simp [FieldType.isReference] at ht)
theorem Go.retA {Q : Option Value → Heap → List Loc → Prop} {K N : Nat} (X : Stand p l e R s m args below meth c T locs cells slots) (hx : p.tables.exec = Jvm.exec) (hlk : meth.locks = false) {pc : Nat} {Ls : Array Slot} {w : Value} {t : FieldType} {rest : List Value} (hret : meth.sig.returnType = some t)
    (ht : t.isReference = true) (hw : w.isRef = true) (hd : decode c.code pc = .ok (.areturn, 1)) (hK : cells ≤ K) (hN : slots ≤ N) (eT : T.heap = h) (hQ : Q (some w) h locs) : Go p.tables e below (FinP s Q K N) T (mkF m pc Ls (w :: rest)) := by
  obtain ⟨fs, hr, hrun, hended, hW, hsame⟩ := X.leave (v := some w) (fun h => by rw [hret] at h; cases h) hlk
  exact ⟨_, _, retOut X hx hret (narrow_ref ht) (Or.inr (Or.inr (Or.inr (Or.inr ⟨rfl, ht, hw⟩)))) hd hr, hrun, hended, _, _, rfl, (by rw [show (T.setFrames fs).heap = h from eT]; exact hQ), ⟨_, rfl⟩, hW, hsame.mono hK hN⟩
theorem Go.retV {Q : Option Value → Heap → List Loc → Prop} {K N : Nat} (X : Stand p l e R s m args below meth c T locs cells slots) (hx : p.tables.exec = Jvm.exec) (hlk : meth.locks = false) {pc : Nat} {Ls : Array Slot} (hret : meth.sig.returnType = none)
    (hd : decode c.code pc = .ok (.return_, 1)) (hK : cells ≤ K) (hN : slots ≤ N) (eT : T.heap = h) (hQ : Q none h locs) : Go p.tables e below (FinP s Q K N) T (mkF m pc Ls []) := by
  obtain ⟨fs, hr, hrun, hended, hW, hsame⟩ := X.leave (v := none) (fun _ => rfl) hlk
  exact ⟨_, _, X.returnOut hx hret hd hr, hrun, hended, _, _, rfl, (by rw [show (T.setFrames fs).heap = h from eT]; exact hQ), ⟨_, rfl⟩, hW, hsame.mono hK hN⟩
/-- a body's contract: called with as' at the heap h0 it returns as Q says -/
def Con (l : Launch) (Z : State) (y : MethodName) (bytes : ByteArray) (maxL : Nat) (ret : Option FieldType) (ws : List Cond) (rm : Room) (as' : Array Value) (h0 : Heap) (Q : Option Value → Heap → List Loc → Prop) : Prop :=
  MetFree l y (head1 (Cond.code y bytes maxL ret :: ws) rm) (fun a U => a = as' ∧ Z.Warmed39 U.vm ∧ U.heap = h0) (fun _ _ _ _ _ => True) (fun _ U o U' => ∃ v L, o = .returned v ∧ Q v U'.heap L ∧ FrameEnd U o U' L rm.cells rm.slots)
theorem Con.enter {y : MethodName} {bytes : ByteArray} {maxL : Nat} {ret : Option FieldType} {ws : List Cond} {rm : Room} {as' : Array Value} {h0 : Heap} {Q : Option Value → Heap → List Loc → Prop} (hp : plainFor y = true)
    (H : ∀ (p : Program) (e : Env) (s : State) (m : MethodId) (below : List Frame) (meth : Method) (c : Code) (s₁ : State), Stand p l e rm s m as' below meth c s₁ [] 0 0 → p.tables.exec = Jvm.exec → Z.Warmed39 s.vm → c.code = bytes → c.maxLocals = maxL → meth.sig.returnType = ret → meth.locks = false → s.vm.findClass y.cls = some m.cls → meth.name = y.name → s₁.heap = h0 →
      Go p.tables e below (FinP s Q rm.cells rm.slots) s₁ (entryFrame m as' maxL)) : Con l Z y bytes maxL ret ws rm as' h0 Q := by
  refine MetFree.of_bodySF hp hisR ?_
  intro p e s m args below meth c s₁ Bd hml0 hP hK
  obtain ⟨rfl, hZ, hh⟩ := hP
  exact H p e s m below meth c s₁ (Stand.of_body Bd) Bd.exec hZ Bd.bytes hml0 Bd.returns Bd.notSynchronized (findClass_of_methodNamed Bd.named) (name_of_methodNamed Bd.named Bd.method).1 (by rw [← hh, Bd.state]; rfl)
theorem Con.mono {y : MethodName} {bytes : ByteArray} {maxL : Nat} {ret : Option FieldType} {ws : List Cond} {rm : Room} {as' : Array Value} {h0 : Heap} {Q Q' : Option Value → Heap → List Loc → Prop} (C : Con l Z y bytes maxL ret ws rm as' h0 Q) (H : ∀ v h L, Q v h L → Q' v h L) : Con l Z y bytes maxL ret ws rm as' h0 Q' := by
  intro p e ha hc hk s m args below hf happ hP hK
  obtain ⟨n, o, h1, h2, h3, v, L, rfl, hq, hr⟩ := C p e ha hc hk s m args below hf happ hP hK
  exact ⟨n, _, h1, h2, h3, v, L, rfl, H _ _ _ hq, hr⟩
variable {y z : MethodName} {bytes : ByteArray} {maxL : Nat} {ret : Option FieldType} {rm : Room} {as' : Array Value} {Q : Option Value → Heap → List Loc → Prop} {W len : Nat} {own C owner : String} {index : Nat} {argsL rest : List Value}
/-- behind a call -/
theorem Go.back {vs : Array Value} {vm1 : Vm → Pt} {n : Nat} (H : ∃ (v : Option Value) (vm₁ : Vm) (B : Pt), s.WarmedH vm₁ ∧ Stand p l e R s m args below meth c B.U B.locs B.cells B.slots ∧ (∃ L, Q v B.U.heap L ∧ B.locs = locs ++ L ∧ B.cells = cells + rm.cells ∧ B.slots = slots + rm.slots) ∧
      Steps p.tables e below (T.setTop g) (B.U.setTop { g with pc := g.pc + n, stack := v.toList ++ rest }))
    (k : ∀ (v : Option Value) (T' : State) (h' : Heap) (L : List Loc), Stand p l e R s m args below meth c T' (locs ++ L) (cells + rm.cells) (slots + rm.slots) → T'.heap = h' → Q v h' L → Go p.tables e below P T' { g with pc := g.pc + n, stack := v.toList ++ rest }) : Go p.tables e below P T g := by
  obtain ⟨v, _, ⟨U, L1, k1, n1⟩, -, X', ⟨L, hQ, e1, e2, e3⟩, st⟩ := H
  have e1' : L1 = locs ++ L := e1
  have e2' : k1 = cells + rm.cells := e2
  have e3' : n1 = slots + rm.slots := e3
  subst e1' e2' e3'
  exact Go.tr st (k v U _ L X' rfl hQ)
theorem Go.callSt (X : Stand p l e R s m args below meth c T locs cells slots) (hx : p.tables.exec = Jvm.exec) (hZ : Z.Warmed39 s.vm) (hown : s.vm.findClass own = some m.cls) (eT : T.heap = h)
    (w1 : (Cond.methodLink own index y).before a0 Z = true) (w2 : (Cond.static y).before a0 Z = true) (w3 : (Cond.initialized y.cls).before a0 Z = true) (w4 : (Cond.code y bytes maxL ret).before a0 Z = true) (hy : y.cls ≠ "java/lang/invoke/MethodHandle" ∧ y.cls ≠ "java/lang/invoke/VarHandle")
    (hM : Con l Z y bytes maxL ret [] rm as' h Q) (ha : argsL.toArray = as') (hlen : ∀ sig, parseMethodDescriptor y.desc = some sig → argsL.length = sig.parameters.length) (hg : g.method = m) (hsize : g.locals.size = c.maxLocals) (hst : g.stack = argsL.reverse ++ rest)
    (hW : 2 * g.monitorRoom + (rest.map fun v => v.category).sum ≤ W) (hf : rm.frames + 1 ≤ R.frames) (hl : W + (maxL + 11) + rm.locals ≤ R.locals) (hc : cells + rm.cells ≤ R.cells) (hs : slots + rm.slots ≤ R.slots) (hd : decode c.code g.pc = .ok (.invokestatic index, 3))
    (k : ∀ (v : Option Value) (T' : State) (h' : Heap) (L : List Loc), Stand p l e R s m args below meth c T' (locs ++ L) (cells + rm.cells) (slots + rm.slots) → T'.heap = h' → Q v h' L → Go p.tables e below P T' { g with pc := g.pc + 3, stack := v.toList ++ rest }) : Go p.tables e below P T g := by
  obtain ⟨v, vm₁, B, q1, q2, q3, q4⟩ := Jvm.LawKit.callS X hx (y := y) (bytes := bytes) (maxL := maxL) (ret := ret) hown (mvT hZ w1) (mvT hZ w2) (mvT hZ w3) (mvT hZ w4) hy (backOf (W := W) (a0 := a0) hM hZ w4 w3 hf hl) (g := g) hg hsize (argsL := argsL) (rest := rest) hlen hst hW hd (fun _ _ => ⟨ha, eT, hc, hs⟩)
  exact Go.back (vs := as') (vm1 := fun _ => ⟨T, [], 0, 0⟩) ⟨v, vm₁, B, q1, q2, q3, q4 _ (Steps.refl _)⟩ k
theorem Go.callSp (X : Stand p l e R s m args below meth c T locs cells slots) (hx : p.tables.exec = Jvm.exec) (hZ : Z.Warmed39 s.vm) (hown : s.vm.findClass own = some m.cls) (eT : T.heap = h) (hy1 : y.name = "<init>")
    (w1 : (Cond.methodLink own index y).before a0 Z = true) (w2 : (Cond.instanceMethod y).before a0 Z = true) (w3 : (Cond.initialized y.cls).before a0 Z = true) (w4 : (Cond.code y bytes maxL none).before a0 Z = true) (hy : y.cls ≠ "java/lang/invoke/MethodHandle" ∧ y.cls ≠ "java/lang/invoke/VarHandle")
    {a : Addr} (hM : Con l Z y bytes maxL none [] rm as' h Q) (ha : (Value.ref a :: argsL).toArray = as') (hlen : ∀ sig, parseMethodDescriptor y.desc = some sig → argsL.length = sig.parameters.length) (hg : g.method = m) (hsize : g.locals.size = c.maxLocals) (hst : g.stack = argsL.reverse ++ .ref a :: rest)
    (hW : 2 * g.monitorRoom + (rest.map fun v => v.category).sum ≤ W) (hf : rm.frames + 1 ≤ R.frames) (hl : W + (maxL + 11) + rm.locals ≤ R.locals) (hc : cells + rm.cells ≤ R.cells) (hs : slots + rm.slots ≤ R.slots) (hd : decode c.code g.pc = .ok (.invokespecial index, 3))
    (k : ∀ (v : Option Value) (T' : State) (h' : Heap) (L : List Loc), Stand p l e R s m args below meth c T' (locs ++ L) (cells + rm.cells) (slots + rm.slots) → T'.heap = h' → Q v h' L → Go p.tables e below P T' { g with pc := g.pc + 3, stack := v.toList ++ rest }) : Go p.tables e below P T g := by
  exact Go.back (vs := as') (vm1 := fun _ => ⟨T, [], 0, 0⟩) (X.specialBack hx (y := y) hy1 hown (mvT hZ w1) (mvT hZ w2) (mvT hZ w4) hy (backOf (W := W) (a0 := a0) hM hZ w4 w3 hf hl) (g := g) hg hsize (Steps.refl _) (a := a) (argsL := argsL) (rest := rest) hlen hst hW hd (fun _ _ => ⟨ha, eT, hc, hs⟩)) k
theorem Go.callV (X : Stand p l e R s m args below meth c T locs cells slots) (hx : p.tables.exec = Jvm.exec) (hZ : Z.Warmed39 s.vm) (hown : s.vm.findClass own = some m.cls) (eT : T.heap = h)
    (w1 : (Cond.methodLink own index y).before a0 Z = true) (w2 : (Cond.declares y).before a0 Z = true) (w5 : (Cond.selects C y z).before a0 Z = true) (w6 : (Cond.instanceMethod z).before a0 Z = true) (w3 : (Cond.initialized z.cls).before a0 Z = true) (w4 : (Cond.code z bytes maxL ret).before a0 Z = true)
    (hnf : NotFace s y) (hy : y.cls ≠ "java/lang/invoke/MethodHandle" ∧ y.cls ≠ "java/lang/invoke/VarHandle")
    {a : Addr} (E : Exa Z h a C) (hM : Con l Z z bytes maxL ret [] rm as' h Q) (ha : (Value.ref a :: argsL).toArray = as') (hlen : ∀ sig, parseMethodDescriptor y.desc = some sig → argsL.length = sig.parameters.length) (hg : g.method = m) (hsize : g.locals.size = c.maxLocals) (hst : g.stack = argsL.reverse ++ .ref a :: rest)
    (hW : 2 * g.monitorRoom + (rest.map fun v => v.category).sum ≤ W) (hf : rm.frames + 1 ≤ R.frames) (hl : W + (maxL + 11) + rm.locals ≤ R.locals) (hc : cells + rm.cells ≤ R.cells) (hs : slots + rm.slots ≤ R.slots) (hd : decode c.code g.pc = .ok (.invokevirtual index, 3))
    (k : ∀ (v : Option Value) (T' : State) (h' : Heap) (L : List Loc), Stand p l e R s m args below meth c T' (locs ++ L) (cells + rm.cells) (slots + rm.slots) → T'.heap = h' → Q v h' L → Go p.tables e below P T' { g with pc := g.pc + 3, stack := v.toList ++ rest }) : Go p.tables e below P T g := by
  obtain ⟨cq, kq, qa, qb, qc⟩ := isOf hZ eT E
  exact Go.back (vs := as') (vm1 := fun _ => ⟨T, [], 0, 0⟩) (X.virtualBack hx (y := y) (z := z) hown (mvT hZ w1) (mvT hZ w2) hnf (mvT hZ w5) (mvT hZ w6) hy (backOf (W := W) (a0 := a0) hM hZ w4 w3 hf hl) qa qc (g := g) hg hsize (Steps.refl _) (argsL := argsL) (rest := rest) hlen hst hW hd (fun _ _ => ⟨ha, eT, hc, hs⟩)) k
theorem Go.callUp (X : Stand p l e R s m args below meth c T locs cells slots) (hx : p.tables.exec = Jvm.exec) (hZ : Z.Warmed39 s.vm) (hown : s.vm.findClass own = some m.cls) (eT : T.heap = h)
    (w1 : (Cond.methodLink own index y).before a0 Z = true) (w2 : (Cond.sameMethod y.cls owner y.name y.desc).before a0 Z = true) (w7 : (Cond.declares ⟨owner, y.name, y.desc⟩).before a0 Z = true) (hy : owner ≠ "java/lang/invoke/MethodHandle" ∧ owner ≠ "java/lang/invoke/VarHandle")
    (w5 : (Cond.selects C y z).before a0 Z = true) (w6 : (Cond.instanceMethod z).before a0 Z = true) (w3 : (Cond.initialized z.cls).before a0 Z = true) (w4 : (Cond.code z bytes maxL ret).before a0 Z = true)
    {a : Addr} (E : Exa Z h a C) (hM : Con l Z z bytes maxL ret [] rm as' h Q) (ha : (Value.ref a :: argsL).toArray = as') (hlen : ∀ sig, parseMethodDescriptor y.desc = some sig → argsL.length = sig.parameters.length) (hg : g.method = m) (hsize : g.locals.size = c.maxLocals) (hst : g.stack = argsL.reverse ++ .ref a :: rest)
    (hW : 2 * g.monitorRoom + (rest.map fun v => v.category).sum ≤ W) (hf : rm.frames + 1 ≤ R.frames) (hl : W + (maxL + 11) + rm.locals ≤ R.locals) (hc : cells + rm.cells ≤ R.cells) (hs : slots + rm.slots ≤ R.slots) (hd : decode c.code g.pc = .ok (.invokevirtual index, 3))
    (k : ∀ (v : Option Value) (T' : State) (h' : Heap) (L : List Loc), Stand p l e R s m args below meth c T' (locs ++ L) (cells + rm.cells) (slots + rm.slots) → T'.heap = h' → Q v h' L → Go p.tables e below P T' { g with pc := g.pc + 3, stack := v.toList ++ rest }) : Go p.tables e below P T g := by
  obtain ⟨cq, kq, qa, qb, qc⟩ := isOf hZ eT E
  exact Go.back (vs := as') (vm1 := fun _ => ⟨T, [], 0, 0⟩) (X.virtualBackUp hx (x := y) (y := z) hown (mvT hZ w1) (mvT hZ w2) (mvT hZ w7) hy (mvT hZ w5) (mvT hZ w6) (backOf (W := W) (a0 := a0) hM hZ w4 w3 hf hl) qa qc (g := g) hg hsize (Steps.refl _) (argsL := argsL) (rest := rest) hlen hst hW hd (fun _ _ => ⟨ha, eT, hc, hs⟩)) k
theorem ldCV (X : Stand p l e R s m args below meth c T locs cells slots) (hx : p.tables.exec = Jvm.exec) (hZ : Z.Warmed39 s.vm) (eT : T.heap = h) {a : Addr} {k : ClassId} {z : Int32} {vs : List Value} {d : Value} (F : Arv Z h a k .char z vs d) {j : Int32} (hj : ¬ j < 0 ∧ j < z) {v : Value} (hv : vs.getD j.toNatClampNeg d = v) {g : JFrame} (hg : g.method = m) {rest : List Value} (hs : g.stack = .int j :: .ref a :: rest) (hd : decode c.code g.pc = .ok (.caload, 1)) {target : State}
    (kk : Steps p.tables e below (T.setTop { g with pc := g.pc + 1, stack := v :: rest }) target) : Steps p.tables e below (T.setTop g) target := by
  obtain ⟨cl, A, q1, S, q3, H, G⟩ := F
  exact X.caload hx (j := j) (v := v) (by rw [eT]; exact A.1) (State.isArrayOf_alike hZ.alike A.2.1) A.2.2 (inb_of S hj) (H.at (inb_of S hj) hv) hg hs hd _ kk
theorem ldBV (X : Stand p l e R s m args below meth c T locs cells slots) (hx : p.tables.exec = Jvm.exec) (hZ : Z.Warmed39 s.vm) (eT : T.heap = h) {a : Addr} {k : ClassId} {z : Int32} {vs : List Value} {d : Value} (F : Arv Z h a k .byte z vs d) {j : Int32} (hj : ¬ j < 0 ∧ j < z) {v : Value} (hv : vs.getD j.toNatClampNeg d = v) {g : JFrame} (hg : g.method = m) {rest : List Value} (hs : g.stack = .int j :: .ref a :: rest) (hd : decode c.code g.pc = .ok (.baload, 1)) {target : State}
    (kk : Steps p.tables e below (T.setTop { g with pc := g.pc + 1, stack := v :: rest }) target) : Steps p.tables e below (T.setTop g) target := by
  obtain ⟨cl, A, q1, S, q3, H, G⟩ := F
  exact X.baloadBytes hx (j := j) (v := v) (by rw [eT]; exact A.1) (State.isArrayOf_alike hZ.alike A.2.1) A.2.2 (inb_of S hj) (H.at (inb_of S hj) hv) hg hs hd _ kk
theorem ldIV (X : Stand p l e R s m args below meth c T locs cells slots) (hx : p.tables.exec = Jvm.exec) (hZ : Z.Warmed39 s.vm) (eT : T.heap = h) {a : Addr} {k : ClassId} {z : Int32} {vs : List Value} {d : Value} (F : Arv Z h a k .int z vs d) {j : Int32} (hj : ¬ j < 0 ∧ j < z) {v : Value} (hv : vs.getD j.toNatClampNeg d = v) {g : JFrame} (hg : g.method = m) {rest : List Value} (hs : g.stack = .int j :: .ref a :: rest) (hd : decode c.code g.pc = .ok (.iaload, 1)) {target : State}
    (kk : Steps p.tables e below (T.setTop { g with pc := g.pc + 1, stack := v :: rest }) target) : Steps p.tables e below (T.setTop g) target := by
  obtain ⟨cl, A, q1, S, q3, H, G⟩ := F
  exact X.iaload hx (j := j) (v := v) (by rw [eT]; exact A.1) (State.isArrayOf_alike hZ.alike A.2.1) A.2.2 (inb_of S hj) (H.at (inb_of S hj) hv) hg hs hd _ kk
theorem ldRV (X : Stand p l e R s m args below meth c T locs cells slots) (hx : p.tables.exec = Jvm.exec) (hZ : Z.Warmed39 s.vm) (eT : T.heap = h) {a : Addr} {k : ClassId} {C : String} {z : Int32} {vs : List Value} {d : Value} (F : Arv Z h a k (.object C) z vs d) {j : Int32} (hj : ¬ j < 0 ∧ j < z) {v : Value} (hv : vs.getD j.toNatClampNeg d = v) {g : JFrame} (hg : g.method = m) {rest : List Value} (hs : g.stack = .int j :: .ref a :: rest) (hd : decode c.code g.pc = .ok (.aaload, 1)) {target : State}
    (kk : Steps p.tables e below (T.setTop { g with pc := g.pc + 1, stack := v :: rest }) target) : Steps p.tables e below (T.setTop g) target := by
  obtain ⟨cl, A, q1, S, q3, H, G⟩ := F
  exact X.aaload hx (j := j) (v := v) (by rw [eT]; exact A.1) (State.isArrayOf_alike hZ.alike A.2.1) rfl A.2.2 (inb_of S hj) (H.at (inb_of S hj) hv) hg hs hd _ kk
theorem lenV (X : Stand p l e R s m args below meth c T locs cells slots) (hx : p.tables.exec = Jvm.exec) (hZ : Z.Warmed39 s.vm) (eT : T.heap = h) {a : Addr} {k : ClassId} {ty : FieldType} {z : Int32} {vs : List Value} {d : Value} (F : Arv Z h a k ty z vs d) {g : JFrame} (hg : g.method = m) {rest : List Value} (hs : g.stack = .ref a :: rest) (hd : decode c.code g.pc = .ok (.arraylength, 1)) {target : State}
    (kk : Steps p.tables e below (T.setTop { g with pc := g.pc + 1, stack := .int z :: rest }) target) : Steps p.tables e below (T.setTop g) target := by
  obtain ⟨cl, A, q1, S, q3, H, G⟩ := F
  refine X.arraylength hx (by rw [eT]; exact A.1) (State.isArrayOf_alike hZ.alike A.2.1) hg hs hd _ ?_
  rw [len_of S q3]; exact kk
theorem stCV (X : Stand p l e R s m args below meth c T locs cells slots) (hx : p.tables.exec = Jvm.exec) (hZ : Z.Warmed39 s.vm) (eT : T.heap = h) {a : Addr} {k : ClassId} {z : Int32} {vs : List Value} {d : Value} (F : Arv Z h a k .char z vs d) {j x : Int32} {i : Nat} (hj : ¬ j < 0 ∧ j < z) (hi : j.toNatClampNeg = i) (hl : i < vs.length) {g : JFrame} (hg : g.method = m) {rest : List Value} (hs : g.stack = .int x :: .int j :: .ref a :: rest) (hd : decode c.code g.pc = .ok (.castore, 1)) :
    ∃ T' h', Stand p l e R s m args below meth c T' (locs ++ [⟨a, j.toNatClampNeg⟩]) cells slots ∧ T'.heap = h' ∧ Wr h h' a j.toNatClampNeg (.int (nar .char x)) ∧ Arv Z h' a k .char z (vs.set i (.int (nar .char x))) d ∧ ∀ target, Steps p.tables e below (T'.setTop { g with pc := g.pc + 1, stack := rest }) target → Steps p.tables e below (T.setTop g) target := by
  obtain ⟨cl, A, q1, S, q3, H, G⟩ := F
  obtain ⟨T', h', X', e', W, st⟩ := stC X hx hZ eT A (inb_of S hj) hg hs hd
  exact ⟨T', h', X', e', W, Arv.set A q1 S q3 H G (fits_nar_char _) W i hi hl, st⟩
theorem stBV (X : Stand p l e R s m args below meth c T locs cells slots) (hx : p.tables.exec = Jvm.exec) (hZ : Z.Warmed39 s.vm) (eT : T.heap = h) {a : Addr} {k : ClassId} {z : Int32} {vs : List Value} {d : Value} (F : Arv Z h a k .byte z vs d) {j x : Int32} {i : Nat} (hj : ¬ j < 0 ∧ j < z) (hi : j.toNatClampNeg = i) (hl : i < vs.length) {g : JFrame} (hg : g.method = m) {rest : List Value} (hs : g.stack = .int x :: .int j :: .ref a :: rest) (hd : decode c.code g.pc = .ok (.bastore, 1)) :
    ∃ T' h', Stand p l e R s m args below meth c T' (locs ++ [⟨a, j.toNatClampNeg⟩]) cells slots ∧ T'.heap = h' ∧ Wr h h' a j.toNatClampNeg (.int (nar .byte x)) ∧ Arv Z h' a k .byte z (vs.set i (.int (nar .byte x))) d ∧ ∀ target, Steps p.tables e below (T'.setTop { g with pc := g.pc + 1, stack := rest }) target → Steps p.tables e below (T.setTop g) target := by
  obtain ⟨cl, A, q1, S, q3, H, G⟩ := F
  obtain ⟨T', h', X', e', W, st⟩ := stB X hx hZ eT A (inb_of S hj) hg hs hd
  exact ⟨T', h', X', e', W, Arv.set A q1 S q3 H G (fits_nar_byte _) W i hi hl, st⟩
theorem eqv_r {Z : State} {args : Array Value} {X F : Term} {idx : List Nat} {y : Addr} (hF : F.eval args Z none idx Z = some (.ref y)) (h : (Cond.eq X F).value args Z none Z idx = some true) : X.eval args Z none idx Z = some (.ref y) := by
  cases hX : X.eval args Z none idx Z with
  | none => simp [Cond.value, hX] at h
  | some v => cases v <;> simp [Cond.value, hX, hF] at h ⊢; exact h
theorem Arv.startL {Z : State} {args : Array Value} {t : Term} {a : Addr} {ty : FieldType} {z : Int32} {vs : List Value} {dv : Value} (hf : Fit Z) (et : t.eval args Z none [] Z = some (.ref a)) (ha : (Cond.arrayOf t ty).value args Z none Z [] = some true) (hl : (Cond.eq (.length t) (.int z)).value args Z none Z [] = some true)
    (hz : ¬ z < 0) (hn : z.toNatClampNeg = vs.length) (H : ∀ c, Z.heap[a]? = some c → HasL c 0 vs) : ∃ k, Arv Z Z.heap a k ty z vs dv := by
  obtain ⟨c, A⟩ := Arr.start et ha
  obtain ⟨b, cell, e1, e2, e3, e4⟩ := Jvm.Lib.length_spec (eqv_i rfl hl)
  cases et.symm.trans e1
  cases (A.fin (Vm.Alike.refl _)).symm.trans e2
  exact ⟨c.cls, Arv.start hf A e3 (Value.int.inj e4).symm hz hn (H c A.1)⟩
theorem Keep.toExt (K : Keep h h' []) : Ext h h' := ⟨K.1, fun a c q => K.2.1 a c q (fun z => nomatch z)⟩
theorem Ext.toKeep (E : Ext h h') : Keep h h' [] := ⟨E.1, fun a c q _ => E.2 a c q, fun a c q => ⟨c, E.2 a c q, rfl, rfl, rfl⟩⟩
theorem Ext.refl (h : Heap) : Ext h h := ⟨Nat.le_refl _, fun _ _ q => q⟩
theorem Ext.tr {h2 : Heap} (A : Ext h h') (B : Ext h' h2) : Ext h h2 := ⟨Nat.le_trans A.1 B.1, fun a c q => B.2 a c (A.2 a c q)⟩
theorem Ext.thenK {h2 : Heap} {ws : List Addr} (A : Ext h h') (K : Keep h' h2 ws) (q : ∀ x ∈ ws, h.size ≤ x) : Ext h h2 := (A.toKeep.trans K fun x hx => Or.inr (q x hx)).toExt
theorem Ext.thenW {h2 : Heap} {a : Addr} {sl : Nat} {v : Value} (A : Ext h h') (W : Wr h' h2 a sl v) (q : h.size ≤ a) : Ext h h2 := (A.toKeep.wr W (Or.inr q)).toExt
/-- a String: its coder and its bytes -/
def StrB (Z : State) (h : Heap) (a : Addr) (cd : Int32) (bs : List Int32) : Prop := ∃ (t : Addr) (k : ClassId), Exa Z h a "java/lang/String" ∧ Fld Z h a "java/lang/String" "coder" "B" (.int cd) ∧ Fld Z h a "java/lang/String" "value" "[B" (.ref t) ∧ Arv Z h t k .byte (Int32.ofNat bs.length) (bs.map Value.int) (.int (0 : Int32))
theorem StrB.ext {a : Addr} {cd : Int32} {bs : List Int32} (F : StrB Z h a cd bs) (E : Ext h h') : StrB Z h' a cd bs := by
  obtain ⟨t, k, h1, h2, h3, h4⟩ := F; exact ⟨t, k, h1.ext E, h2.ext E, h3.ext E, h4.ext E⟩
theorem StrB.lt {a : Addr} {cd : Int32} {bs : List Int32} (F : StrB Z h a cd bs) : a < h.size := by obtain ⟨t, k, h1, -⟩ := F; exact h1.lt
theorem StrB.exa {a : Addr} {cd : Int32} {bs : List Int32} (F : StrB Z h a cd bs) : Exa Z h a "java/lang/String" := by obtain ⟨t, k, h1, -⟩ := F; exact h1
theorem StrB.keepO {a b : Addr} {C : String} {kk : Nat} {cd : Int32} {bs : List Int32} (F : StrB Z h a cd bs) (E : Exa Z h b C) (hC : C ≠ "java/lang/String") (wi : (Cond.instantiable C kk).before a0 Z = true) (K : Keep h h' [b]) : StrB Z h' a cd bs := by
  obtain ⟨t, k, h1, h2, h3, h4⟩ := F
  have n1 : a ≠ b := ne_exa h1 E (Ne.symm hC)
  have n2 : t ≠ b := by obtain ⟨c, A, -⟩ := h4; exact Ne.symm (ne_arr E wi A)
  exact ⟨t, k, h1.keep K, h2.keep K (ninS n1 nin0), h3.keep K (ninS n1 nin0), h4.keep K (ninS n2 nin0)⟩
theorem StrB.wrO {a b : Addr} {sl : Nat} {v : Value} {C : String} {kk : Nat} {cd : Int32} {bs : List Int32} (F : StrB Z h a cd bs) (E : Exa Z h b C) (hC : C ≠ "java/lang/String") (wi : (Cond.instantiable C kk).before a0 Z = true) (W : Wr h h' b sl v) : StrB Z h' a cd bs := F.keepO E hC wi (Keep.of_wr W)
theorem Arv.uniq {a : Addr} {k k' : ClassId} {ty ty' : FieldType} {bs ds : List Int32} (lb : bs.length < 2 ^ 31) (ld : ds.length < 2 ^ 31) (A : Arv Z h a k ty (Int32.ofNat bs.length) (bs.map Value.int) (.int 0)) (B : Arv Z h a k' ty' (Int32.ofNat ds.length) (ds.map Value.int) (.int 0)) : bs = ds := by
  obtain ⟨c1, A1, -, A3, -, A5, -⟩ := A
  obtain ⟨c2, B1, -, B3, -, B5, -⟩ := B
  cases A1.1.symm.trans B1.1
  have z : ∀ n : Nat, n < 2 ^ 31 → (Int32.ofNat n).toNatClampNeg = n := fun n hn => by
    have q : (Int32.ofNat n).toInt = n := Int32.toInt_ofNat_of_lt (by omega)
    simp [Int32.toNatClampNeg, q]
  rw [z _ lb] at A3
  rw [z _ ld] at B3
  have hl : bs.length = ds.length := A3.symm.trans B3
  refine List.ext_getElem hl fun i h1 h2 => ?_
  have q := (A5 i (by omega)).symm.trans (B5 i (by omega))
  simpa [List.getD_eq_getElem?_getD, h1, h2] using q
theorem StrB.uniq {a : Addr} {cd cd' : Int32} {bs ds : List Int32} (lb : bs.length < 2 ^ 31) (ld : ds.length < 2 ^ 31) (F : StrB Z h a cd bs) (G : StrB Z h a cd' ds) : cd = cd' ∧ bs = ds := by
  obtain ⟨t, k, h1, h2, h3, h4⟩ := F
  obtain ⟨t', k', g1, g2, g3, g4⟩ := G
  have e1 : cd = cd' := Classical.byContradiction fun q => h2.ne g2 (fun z => q (Value.int.inj z)) rfl
  have e2 : t = t' := Classical.byContradiction fun q => h3.ne g3 (fun z => q (Value.ref.inj z)) rfl
  subst e2
  exact ⟨e1, h4.uniq lb ld g4⟩
theorem NS.rootI {O K : String} {kk : Nat} (w : (Cond.noSuperclass O).before a0 Z = true) (wk : (Cond.instantiable K kk).before a0 Z = true) (hn : O ≠ K) : NS Z O K := by
  obtain ⟨c, k, h1, h2, h3, -, -⟩ := Cond.noSuperclass_spec w
  obtain ⟨t, kt, g1, -⟩ := Cond.instantiable_spec wk
  have ne := ids_ne h1 g1 hn
  refine ⟨c, t, h1, g1, fun fuel => ?_⟩
  cases fuel with
  | zero => rfl
  | succ f => simp [Vm.isSubclassAux, ne, h2, h3]
theorem NS.noI {C S K : String} {kk : Nat} (w : (Cond.superclass C S).before a0 Z = true) (wk : (Cond.instantiable K kk).before a0 Z = true) (n : NS Z C K) (hn : C ≠ K) : ∃ c t, Z.vm.findClass C = some c ∧ Z.vm.findClass K = some t ∧ Z.vm.assignable c t = false := by
  obtain ⟨c, t, h0, g0, n3⟩ := n
  obtain ⟨p, k, kp, h1, h2, h3, h4, h5, -, h7⟩ := Cond.superclass_spec h0 w
  obtain ⟨t', kt, g1, g2, g3, g4, -⟩ := Cond.instantiable_spec wk
  cases g0.symm.trans g1
  have g7 : kt.isInterface = false := by simp only [Bool.or_eq_false_iff] at g4; exact g4.1
  have ne := ids_ne h0 g0 hn
  refine ⟨c, t, h0, g0, ?_⟩
  show Z.vm.assignableAux (255 + 1) c t = false
  simp [Vm.assignableAux, ne, h2, g2, h5, g3, g7, Vm.isSubclass, n3]
theorem i2c_id {x : Int32} (h : 0 ≤ x.toInt ∧ x.toInt < 65536) : x.toUInt32.toUInt16.toUInt32.toInt32 = x := by
  have q := c_i2c x
  exact Int32.toInt_inj.mp (by omega)
theorem i2b_id {x : Int32} (h : -128 ≤ x.toInt ∧ x.toInt < 128) : x.toInt8.toInt32 = x := by
  have q := c_i2b x
  exact Int32.toInt_inj.mp (by omega)
theorem nar_b {x : Int32} : nar .byte (x.toInt8.toInt32) = x.toInt8.toInt32 := i2b_id (c_i2b x).2
theorem nar_c {x : Int32} : nar .char (x.toUInt32.toUInt16.toUInt32.toInt32) = x.toUInt32.toUInt16.toUInt32.toInt32 := i2c_id (c_i2c x).2
theorem nar_cid {x : Int32} (h : 0 ≤ x.toInt ∧ x.toInt < 65536) : nar .char x = x := i2c_id h
theorem and255 (x : Int32) : 0 ≤ ((x &&& 255).toUInt32.toUInt16.toUInt32.toInt32).toInt ∧ ((x &&& 255).toUInt32.toUInt16.toUInt32.toInt32).toInt ≤ 255 := by
  have h := c_mask x 255 8 (by decide) (by decide)
  have q := c_i2c (x &&& 255)
  omega
theorem le255 {x : Int32} (h : 0 ≤ x.toInt ∧ x.toInt ≤ 255) : ¬ (255 : Int32) < x := by rw [Int32.lt_iff_toInt_lt]; have : (255 : Int32).toInt = 255 := rfl; omega
theorem ne_lt {x b i j : Nat} (h1 : x < i) (h2 : i ≤ j) (h3 : j ≤ b) : x ≠ b := by omega
theorem own_add0 (n : Nat) : n + 0 = n := rfl
end OwnGo
end Jvm.RoadKit
namespace Jvm.RoadKit
open Sem ClassFile Op Lib Jvm.Stand Jvm.Free Jvm.LawKit
section OwnS
variable {p : Program} {l : Launch} {e : Env} {R : Room} {s : State} {m : MethodId} {args : Array Value} {below : List Frame} {meth : Method} {c : Code} {T T' : State} {locs : List Loc} {cells slots : Nat} {tb : Tables} {P : State → Outcome → Prop} {g g' : JFrame} {Z : State} {a0 : Array Value} {h h' h0 : Heap} {EL : List (String × Nat)} {vm0 : Vm} {k0 : Nat}
/-- the end of a body that may have interned its constants -/
def FinS (s Z : State) (EL : List (String × Nat)) (h0 : Heap) (Q : Option Value → Heap → List Loc → Prop) (K N : Nat) (u : State) (o : Outcome) : Prop := ∃ v L, o = .returned v ∧ Q v u.heap L ∧ CHr Z EL s.vm h0 u.vm u.heap ∧ ReturnedEndW s o u L K N
theorem Go.endS {Q : Option Value → Heap → List Loc → Prop} {K N : Nat} (X : Stand p l e R (s.setVm vm0) m args below meth c T locs cells slots) (hlk : meth.locks = false) (hS : s.Since vm0 k0) (hk : k0 ≤ h.size) (A : CHr Z EL s.vm h0 vm0 h) (hZ : Z.Warmed39 vm0) (hEL : EW Z a0 EL) (hK : cells ≤ K) (hN : slots ≤ N) (eT : T.heap = h)
    {v : Option Value} (hv : meth.sig.returnType = none → v = none) (hQ : Q v h locs)
    (run : ∀ fs, (∀ (f : JFrame) (acts : List Action), f.method = m → f.locked = none → f.entered = [] → (doReturn e (T.setTop f) acts v).1 = T.setFrames fs) → Steps p.tables e below (T.setTop g) (T.setFrames fs)) : Go p.tables e below (FinS s Z EL h0 Q K N) T g := by
  obtain ⟨fs, hr, hrun, hended, hE⟩ := Stand.leaveW (s := s) (vm₁ := vm0) X hS (by rw [eT]; exact hk) (v := v) hv hlk
  have hh : (T.setFrames fs).heap = h := eT
  refine ⟨_, _, run fs hr, hrun, hended, v, locs, rfl, by rw [hh]; exact hQ, ?_, hE.1, hE.2.1, hE.2.2.1, hE.2.2.2.mono hK hN⟩
  rw [hh]
  show CHr Z EL s.vm h0 T.vm h
  exact A.trans (CHv.at X hZ hEL A.1)
theorem Go.retNS {Q : Option Value → Heap → List Loc → Prop} {K N : Nat} (X : Stand p l e R (s.setVm vm0) m args below meth c T locs cells slots) (hx : p.tables.exec = Jvm.exec) (hlk : meth.locks = false) (hS : s.Since vm0 k0) (hk : k0 ≤ h.size) (A : CHr Z EL s.vm h0 vm0 h) (hZ : Z.Warmed39 vm0) (hEL : EW Z a0 EL) {pc : Nat} {Ls : Array Slot} {z : Int32} {t : FieldType} {rest : List Value} (hret : meth.sig.returnType = some t)
    (hn : narrow t (.int z) = .int z) (ht : t = .int ∨ t = .boolean ∨ t = .byte ∨ t = .char ∨ t = .short) (hd : decode c.code pc = .ok (.ireturn, 1)) (hK : cells ≤ K) (hN : slots ≤ N) (eT : T.heap = h) (hQ : Q (some (.int z)) h locs) : Go p.tables e below (FinS s Z EL h0 Q K N) T (mkF m pc Ls (.int z :: rest)) :=
  Go.endS X hlk hS hk A hZ hEL hK hN eT (fun q => by rw [hret] at q; cases q) hQ fun _ hr => retOut X hx hret hn (Or.inl ⟨rfl, ht, z, rfl⟩) hd hr
theorem Go.retAS {Q : Option Value → Heap → List Loc → Prop} {K N : Nat} (X : Stand p l e R (s.setVm vm0) m args below meth c T locs cells slots) (hx : p.tables.exec = Jvm.exec) (hlk : meth.locks = false) (hS : s.Since vm0 k0) (hk : k0 ≤ h.size) (A : CHr Z EL s.vm h0 vm0 h) (hZ : Z.Warmed39 vm0) (hEL : EW Z a0 EL) {pc : Nat} {Ls : Array Slot} {w : Value} {t : FieldType} {rest : List Value} (hret : meth.sig.returnType = some t)
    (ht : t.isReference = true) (hw : w.isRef = true) (hd : decode c.code pc = .ok (.areturn, 1)) (hK : cells ≤ K) (hN : slots ≤ N) (eT : T.heap = h) (hQ : Q (some w) h locs) : Go p.tables e below (FinS s Z EL h0 Q K N) T (mkF m pc Ls (w :: rest)) :=
  Go.endS X hlk hS hk A hZ hEL hK hN eT (fun q => by rw [hret] at q; cases q) hQ fun _ hr => retOut X hx hret (narrow_ref ht) (Or.inr (Or.inr (Or.inr (Or.inr ⟨rfl, ht, hw⟩)))) hd hr
theorem Go.retVS {Q : Option Value → Heap → List Loc → Prop} {K N : Nat} (X : Stand p l e R (s.setVm vm0) m args below meth c T locs cells slots) (hx : p.tables.exec = Jvm.exec) (hlk : meth.locks = false) (hS : s.Since vm0 k0) (hk : k0 ≤ h.size) (A : CHr Z EL s.vm h0 vm0 h) (hZ : Z.Warmed39 vm0) (hEL : EW Z a0 EL) {pc : Nat} {Ls : Array Slot} (hret : meth.sig.returnType = none)
    (hd : decode c.code pc = .ok (.return_, 1)) (hK : cells ≤ K) (hN : slots ≤ N) (eT : T.heap = h) (hQ : Q none h locs) : Go p.tables e below (FinS s Z EL h0 Q K N) T (mkF m pc Ls []) :=
  Go.endS X hlk hS hk A hZ hEL hK hN eT (fun _ => rfl) hQ fun _ hr => X.returnOut hx hret hd hr
/-- a body's contract where it may intern: the booked constants say their texts before and behind it -/
def ConS (l : Launch) (Z : State) (EL : List (String × Nat)) (y : MethodName) (bytes : ByteArray) (maxL : Nat) (ret : Option FieldType) (ws : List Cond) (rm : Room) (as' : Array Value) (h0 : Heap) (sl : List Addr) (Q : Option Value → Heap → List Loc → Prop) : Prop :=
  MetFree l y (head1 (Cond.code y bytes maxL ret :: ws) rm) (fun a U => a = as' ∧ Z.Warmed39 U.vm ∧ U.heap = h0 ∧ CHv Z EL U.vm h0 ∧ ∀ x ∈ sl, Safe Z EL U.vm h0 x) (fun _ _ _ _ _ => True) (fun _ U o U' => ∃ v L, o = .returned v ∧ Q v U'.heap L ∧ CHr Z EL U.vm U.heap U'.vm U'.heap ∧ ReturnedEndW U o U' L rm.cells rm.slots)
theorem ConS.enter {y : MethodName} {bytes : ByteArray} {maxL : Nat} {ret : Option FieldType} {ws : List Cond} {rm : Room} {as' : Array Value} {h0 : Heap} {sl : List Addr} {Q : Option Value → Heap → List Loc → Prop} (hp : plainFor y = true)
    (H : ∀ (p : Program) (e : Env) (s : State) (m : MethodId) (below : List Frame) (meth : Method) (c : Code) (s₁ : State), Stand p l e rm (s.setVm s.vm) m as' below meth c s₁ [] 0 0 → p.tables.exec = Jvm.exec → Z.Warmed39 s.vm → c.code = bytes → c.maxLocals = maxL → meth.sig.returnType = ret → meth.locks = false → s.vm.findClass y.cls = some m.cls → meth.name = y.name → s₁.heap = h0 → s.Since s.vm 0 → CHr Z EL s.vm h0 s.vm h0 → (∀ x ∈ sl, Safe Z EL s.vm h0 x) →
      Go p.tables e below (FinS s Z EL h0 Q rm.cells rm.slots) s₁ (entryFrame m as' maxL)) : ConS l Z EL y bytes maxL ret ws rm as' h0 sl Q := by
  refine MetFree.of_bodySF hp hisR ?_
  intro p e s m args below meth c s₁ Bd hml0 hP hK
  obtain ⟨rfl, hZ, hh, hC, hsf⟩ := hP
  obtain ⟨u, o, g1, g2, g3, v, L, g4, g5, g6, g7⟩ := H p e s m below meth c s₁ (Stand.of_body Bd) Bd.exec hZ Bd.bytes hml0 Bd.returns Bd.notSynchronized (findClass_of_methodNamed Bd.named) (name_of_methodNamed Bd.named Bd.method).1 (by rw [← hh, Bd.state]; rfl) ((State.WarmedH.refl s).since 0) (CHr.refl hC) hsf
  exact ⟨u, o, g1, g2, g3, v, L, g4, g5, by rw [hh]; exact g6, g7⟩
variable {y z : MethodName} {bytes : ByteArray} {maxL : Nat} {ret : Option FieldType} {rm : Room} {as' : Array Value} {sl : List Addr} {Q : Option Value → Heap → List Loc → Prop} {W len : Nat} {own C owner : String} {index : Nat} {argsL rest : List Value}
theorem backSL (hM : ConS l Z EL y bytes maxL ret [] rm as' h sl Q) (hZ : Z.Warmed39 vm0) (wc : (Cond.code y bytes maxL ret).before a0 Z = true) (wz : (Cond.initialized y.cls).before a0 Z = true) (hf : rm.frames + 1 ≤ R.frames) (hl : W + (maxL + 11) + rm.locals ≤ R.locals) (hEL : EW Z a0 EL) (H : CHv Z EL vm0 h) (hsf : ∀ x ∈ sl, x < h.size ∧ Safe Z EL vm0 h x) :
    BackS l R p e below (s.setVm vm0) args y len W (fun A a => a = as' ∧ A.U.heap = h ∧ A.cells + rm.cells ≤ R.cells ∧ A.slots + rm.slots ≤ R.slots)
      (fun A _ v B => ∃ L, Q v B.U.heap L ∧ B.locs = A.locs ++ L ∧ B.cells = A.cells + rm.cells ∧ B.slots = A.slots + rm.slots ∧ CHr Z EL vm0 h B.U.vm B.U.heap) := by
  refine BackS.of_freeW (bytes := bytes) (maxL := maxL) (ret := ret) (E := fun _ first o t L k n => k = rm.cells ∧ n = rm.slots ∧ (∃ v, o = .returned v ∧ Q v t.heap L) ∧ CHr Z EL first.vm first.heap t.vm t.heap) hM hf hl ?_ ?_ (fun _ _ _ _ _ _ _ _ _ => trivial) ?_ ?_
  · intro m meth c A a Y hp
    have hU : Z.Warmed39 A.U.vm := wtrans (s := s.setVm vm0) hZ Y.warmed
    exact ⟨by show (Cond.and _ .tt).before a A.U = true; rw [Cond.before_and, mv hU wc]; rfl, mv hU wc, mv hU wz, hp.2.2.1, hp.2.2.2⟩
  · intro m meth c A a g mk Y hp
    have q := CHv.at Y hZ hEL H
    exact ⟨hp.1, wtrans (s := s.setVm vm0) hZ Y.warmed, hp.2.1, q.1, fun x hx => q.safe (hsf x hx).1 (hsf x hx).2⟩
  · rintro _ _ _ _ ⟨v, L, h1, h2, h3, h4⟩
    exact ⟨L, _, _, h4, rfl, rfl, ⟨v, h1, h2⟩, h3⟩
  · rintro m meth c A a g mk v t L k n Y hp _ _ ⟨e1, e2, ⟨v', e3, e4⟩, e5⟩
    cases e3; subst e1 e2
    refine ⟨L, e4, rfl, rfl, rfl, (CHv.at Y hZ hEL H).trans ?_⟩
    rw [← hp.2.1]; exact e5
theorem Go.backS {n : Nat} (hZ : Z.Warmed39 vm0) (hown : vm0.findClass own = some m.cls) (hS : s.Since vm0 k0) (hk : k0 ≤ h.size) (eT : T.heap = h)
    (H : ∃ (v : Option Value) (vm₁ : Vm) (B : Pt), (s.setVm vm0).WarmedH vm₁ ∧ Stand p l e R ((s.setVm vm0).setVm B.U.vm) m args below meth c B.U B.locs B.cells B.slots ∧ (s.setVm vm0).Since B.U.vm B.U.heap.size ∧ T.heap.size ≤ B.U.heap.size ∧ (∃ L, Q v B.U.heap L ∧ B.locs = locs ++ L ∧ B.cells = cells + rm.cells ∧ B.slots = slots + rm.slots ∧ CHr Z EL vm0 h B.U.vm B.U.heap) ∧
      Steps p.tables e below (T.setTop g) (B.U.setTop { g with pc := g.pc + n, stack := v.toList ++ rest }))
    (k : ∀ (v : Option Value) (T' : State) (h' : Heap) (L : List Loc), Stand p l e R (s.setVm T'.vm) m args below meth c T' (locs ++ L) (cells + rm.cells) (slots + rm.slots) → T'.heap = h' → Q v h' L → s.Since T'.vm h'.size → Z.Warmed39 T'.vm → T'.vm.findClass own = some m.cls → CHr Z EL vm0 h T'.vm h' → Go p.tables e below P T' { g with pc := g.pc + n, stack := v.toList ++ rest }) : Go p.tables e below P T g := by
  obtain ⟨v, _, ⟨U, L1, k1, n1⟩, -, X', hS2, hge, ⟨L, hQ, e1, e2, e3, hC⟩, st⟩ := H
  have e1' : L1 = locs ++ L := e1
  have e2' : k1 = cells + rm.cells := e2
  have e3' : n1 = slots + rm.slots := e3
  subst e1' e2' e3'
  exact Go.tr st (k v U _ L X' rfl hQ (foldS (T := T) hS (by rw [eT]; exact hk) hS2 hge) (State.Warmed39.trans (t := s.setVm vm0) hZ hS2.1) (by rw [hS2.1.alike.findClass]; exact hown) hC)
theorem Go.callStS (X : Stand p l e R (s.setVm vm0) m args below meth c T locs cells slots) (hx : p.tables.exec = Jvm.exec) (hZ : Z.Warmed39 vm0) (hown : vm0.findClass own = some m.cls) (eT : T.heap = h) (hEL : EW Z a0 EL) (HC : CHv Z EL vm0 h) (hS : s.Since vm0 k0) (hk : k0 ≤ h.size)
    (w1 : (Cond.methodLink own index y).before a0 Z = true) (w2 : (Cond.static y).before a0 Z = true) (w3 : (Cond.initialized y.cls).before a0 Z = true) (w4 : (Cond.code y bytes maxL ret).before a0 Z = true) (hy : y.cls ≠ "java/lang/invoke/MethodHandle" ∧ y.cls ≠ "java/lang/invoke/VarHandle")
    (hM : ConS l Z EL y bytes maxL ret [] rm as' h sl Q) (hsf : ∀ x ∈ sl, x < h.size ∧ Safe Z EL vm0 h x) (ha : argsL.toArray = as') (hlen : ∀ sig, parseMethodDescriptor y.desc = some sig → argsL.length = sig.parameters.length) (hg : g.method = m) (hsize : g.locals.size = c.maxLocals) (hst : g.stack = argsL.reverse ++ rest)
    (hW : 2 * g.monitorRoom + (rest.map fun v => v.category).sum ≤ W) (hf : rm.frames + 1 ≤ R.frames) (hl : W + (maxL + 11) + rm.locals ≤ R.locals) (hc : cells + rm.cells ≤ R.cells) (hs : slots + rm.slots ≤ R.slots) (hd : decode c.code g.pc = .ok (.invokestatic index, 3))
    (k : ∀ (v : Option Value) (T' : State) (h' : Heap) (L : List Loc), Stand p l e R (s.setVm T'.vm) m args below meth c T' (locs ++ L) (cells + rm.cells) (slots + rm.slots) → T'.heap = h' → Q v h' L → s.Since T'.vm h'.size → Z.Warmed39 T'.vm → T'.vm.findClass own = some m.cls → CHr Z EL vm0 h T'.vm h' → Go p.tables e below P T' { g with pc := g.pc + 3, stack := v.toList ++ rest }) : Go p.tables e below P T g :=
  Go.backS hZ hown hS hk eT (callSS X hx (y := y) (bytes := bytes) (maxL := maxL) (ret := ret) hown (mvT (s := s.setVm vm0) hZ w1) (mvT (s := s.setVm vm0) hZ w2) (mvT (s := s.setVm vm0) hZ w3) (mvT (s := s.setVm vm0) hZ w4) hy (backSL (W := W) (a0 := a0) hM hZ w4 w3 hf hl hEL HC hsf) (g := g) hg hsize (argsL := argsL) (rest := rest) hlen hst hW hd (fun _ _ => ⟨ha, eT, hc, hs⟩)) k
theorem Go.callSpS (X : Stand p l e R (s.setVm vm0) m args below meth c T locs cells slots) (hx : p.tables.exec = Jvm.exec) (hZ : Z.Warmed39 vm0) (hown : vm0.findClass own = some m.cls) (eT : T.heap = h) (hEL : EW Z a0 EL) (HC : CHv Z EL vm0 h) (hS : s.Since vm0 k0) (hk : k0 ≤ h.size) (hy1 : y.name = "<init>")
    (w1 : (Cond.methodLink own index y).before a0 Z = true) (w2 : (Cond.instanceMethod y).before a0 Z = true) (w3 : (Cond.initialized y.cls).before a0 Z = true) (w4 : (Cond.code y bytes maxL none).before a0 Z = true) (hy : y.cls ≠ "java/lang/invoke/MethodHandle" ∧ y.cls ≠ "java/lang/invoke/VarHandle")
    {a : Addr} (hM : ConS l Z EL y bytes maxL none [] rm as' h sl Q) (hsf : ∀ x ∈ sl, x < h.size ∧ Safe Z EL vm0 h x) (ha : (Value.ref a :: argsL).toArray = as') (hlen : ∀ sig, parseMethodDescriptor y.desc = some sig → argsL.length = sig.parameters.length) (hg : g.method = m) (hsize : g.locals.size = c.maxLocals) (hst : g.stack = argsL.reverse ++ .ref a :: rest)
    (hW : 2 * g.monitorRoom + (rest.map fun v => v.category).sum ≤ W) (hf : rm.frames + 1 ≤ R.frames) (hl : W + (maxL + 11) + rm.locals ≤ R.locals) (hc : cells + rm.cells ≤ R.cells) (hs : slots + rm.slots ≤ R.slots) (hd : decode c.code g.pc = .ok (.invokespecial index, 3))
    (k : ∀ (v : Option Value) (T' : State) (h' : Heap) (L : List Loc), Stand p l e R (s.setVm T'.vm) m args below meth c T' (locs ++ L) (cells + rm.cells) (slots + rm.slots) → T'.heap = h' → Q v h' L → s.Since T'.vm h'.size → Z.Warmed39 T'.vm → T'.vm.findClass own = some m.cls → CHr Z EL vm0 h T'.vm h' → Go p.tables e below P T' { g with pc := g.pc + 3, stack := v.toList ++ rest }) : Go p.tables e below P T g :=
  Go.backS hZ hown hS hk eT (X.specialBackS hx (y := y) hy1 hown (mvT (s := s.setVm vm0) hZ w1) (mvT (s := s.setVm vm0) hZ w2) (mvT (s := s.setVm vm0) hZ w4) hy (backSL (W := W) (a0 := a0) hM hZ w4 w3 hf hl hEL HC hsf) (g := g) hg hsize (Steps.refl _) (a := a) (argsL := argsL) (rest := rest) hlen hst hW hd (fun _ _ => ⟨ha, eT, hc, hs⟩)) k
theorem Go.callVS (X : Stand p l e R (s.setVm vm0) m args below meth c T locs cells slots) (hx : p.tables.exec = Jvm.exec) (hZ : Z.Warmed39 vm0) (hown : vm0.findClass own = some m.cls) (eT : T.heap = h) (hEL : EW Z a0 EL) (HC : CHv Z EL vm0 h) (hS : s.Since vm0 k0) (hk : k0 ≤ h.size)
    (w1 : (Cond.methodLink own index y).before a0 Z = true) (w2 : (Cond.declares y).before a0 Z = true) (w5 : (Cond.selects C y z).before a0 Z = true) (w6 : (Cond.instanceMethod z).before a0 Z = true) (w3 : (Cond.initialized z.cls).before a0 Z = true) (w4 : (Cond.code z bytes maxL ret).before a0 Z = true)
    (hnf : NotFace (s.setVm vm0) y) (hy : y.cls ≠ "java/lang/invoke/MethodHandle" ∧ y.cls ≠ "java/lang/invoke/VarHandle")
    {a : Addr} (E : Exa Z h a C) (hM : ConS l Z EL z bytes maxL ret [] rm as' h sl Q) (hsf : ∀ x ∈ sl, x < h.size ∧ Safe Z EL vm0 h x) (ha : (Value.ref a :: argsL).toArray = as') (hlen : ∀ sig, parseMethodDescriptor y.desc = some sig → argsL.length = sig.parameters.length) (hg : g.method = m) (hsize : g.locals.size = c.maxLocals) (hst : g.stack = argsL.reverse ++ .ref a :: rest)
    (hW : 2 * g.monitorRoom + (rest.map fun v => v.category).sum ≤ W) (hf : rm.frames + 1 ≤ R.frames) (hl : W + (maxL + 11) + rm.locals ≤ R.locals) (hc : cells + rm.cells ≤ R.cells) (hs : slots + rm.slots ≤ R.slots) (hd : decode c.code g.pc = .ok (.invokevirtual index, 3))
    (k : ∀ (v : Option Value) (T' : State) (h' : Heap) (L : List Loc), Stand p l e R (s.setVm T'.vm) m args below meth c T' (locs ++ L) (cells + rm.cells) (slots + rm.slots) → T'.heap = h' → Q v h' L → s.Since T'.vm h'.size → Z.Warmed39 T'.vm → T'.vm.findClass own = some m.cls → CHr Z EL vm0 h T'.vm h' → Go p.tables e below P T' { g with pc := g.pc + 3, stack := v.toList ++ rest }) : Go p.tables e below P T g := by
  obtain ⟨cq, kq, qa, qb, qc⟩ := isOf (s := s.setVm vm0) hZ eT E
  exact Go.backS hZ hown hS hk eT (X.virtualBackS hx (y := y) (z := z) hown (mvT (s := s.setVm vm0) hZ w1) (mvT (s := s.setVm vm0) hZ w2) hnf (mvT (s := s.setVm vm0) hZ w5) (mvT (s := s.setVm vm0) hZ w6) hy (backSL (W := W) (a0 := a0) hM hZ w4 w3 hf hl hEL HC hsf) qa qc (g := g) hg hsize (Steps.refl _) (argsL := argsL) (rest := rest) hlen hst hW hd (fun _ _ => ⟨ha, eT, hc, hs⟩)) k
theorem chrE {vm1 : Vm} (A : CHr Z EL vm0 h0 vm1 h) (E : Ext h h') : CHr Z EL vm0 h0 vm1 h' := A.trans (CHr.ext E A.1)
theorem chrW {vm1 : Vm} {a : Addr} {sl : Nat} {v : Value} (A : CHr Z EL vm0 h0 vm1 h) (W : Wr h h' a sl v) (S : Safe Z EL vm1 h a) : CHr Z EL vm0 h0 vm1 h' := A.trans (CHr.wr W S A.1)
theorem chrK {vm1 : Vm} {ws : List Addr} (A : CHr Z EL vm0 h0 vm1 h) (K : Keep h h' ws) (S : ∀ x ∈ ws, Safe Z EL vm1 h x) : CHr Z EL vm0 h0 vm1 h' := A.trans (CHr.keep K S A.1)
end OwnS
end Jvm.RoadKit
namespace Jvm.Pilot.@@N@@
open Jvm Jvm.ClassFile Sem Op Lib Jvm.Free Jvm.Stand Jvm.LawKit Jvm.RoadKit Bundle Jvm.Pilot.@@N@@.Jvm.D
def EL0 : List (String × Nat) := [("com/example/tierbook/tierbook/cli/FlagNamedPinLaw", 22), ("com/example/tierbook/tierbook/cli/FlagNamedPinLaw", 30), ("com/example/tierbook/tierbook/cli/FlagNamedPinLaw", 38), ("com/example/tierbook/tierbook/cli/FlagNamedPinLaw", 40), ("java/lang/String", 7)]
theorem w20 {a0 : Array Value} {Z : State} (hw : ∀ d ∈ tables_1, d.before a0 Z = true) : ((Jvm.Cond.stringLink "java/lang/String" (7 : Nat) "")).before a0 Z = true := hw _ (List.mem_of_getElem? (i := 20) rfl)
theorem w42 {a0 : Array Value} {Z : State} (hw : ∀ d ∈ tables_1, d.before a0 Z = true) : ((Jvm.Cond.stringLink "com/example/tierbook/tierbook/cli/FlagNamedPinLaw" (40 : Nat) "-V")).before a0 Z = true := hw _ (List.mem_of_getElem? (i := 42) rfl)
theorem w41 {a0 : Array Value} {Z : State} (hw : ∀ d ∈ tables_1, d.before a0 Z = true) : ((Jvm.Cond.stringLink "com/example/tierbook/tierbook/cli/FlagNamedPinLaw" (38 : Nat) "--version")).before a0 Z = true := hw _ (List.mem_of_getElem? (i := 41) rfl)
theorem w40 {a0 : Array Value} {Z : State} (hw : ∀ d ∈ tables_1, d.before a0 Z = true) : ((Jvm.Cond.stringLink "com/example/tierbook/tierbook/cli/FlagNamedPinLaw" (30 : Nat) "-h")).before a0 Z = true := hw _ (List.mem_of_getElem? (i := 40) rfl)
theorem w28 {a0 : Array Value} {Z : State} (hw : ∀ d ∈ tables_1, d.before a0 Z = true) : ((Jvm.Cond.stringLink "com/example/tierbook/tierbook/cli/FlagNamedPinLaw" (22 : Nat) "--help")).before a0 Z = true := hw _ (List.mem_of_getElem? (i := 28) rfl)
theorem hEL0 {a0 : Array Value} {Z : State} (hw : ∀ d ∈ tables_1, d.before a0 Z = true) : EW Z a0 EL0 := (EW.cons (w28 hw) (by decide) (EW.cons (w40 hw) (by decide) (EW.cons (w41 hw) (by decide) (EW.cons (w42 hw) (by decide) (EW.cons (w20 hw) (by decide) EW.nil)))))
theorem hSt0 {a0 : Array Value} {Z : State} (hw : ∀ d ∈ tables_1, d.before a0 Z = true) : ∀ a ∈ Bundle.stringAtoms, a.before a0 Z = true := fun d hd => hw d ((by decide +kernel : ∀ d ∈ Bundle.stringAtoms, d ∈ tables_1) d hd)
theorem own_oflt {i n : Nat} (h : i < n) (hn : n < 2 ^ 31) : Int32.ofNat i < Int32.ofNat n := by
  rw [Int32.lt_iff_toInt_lt, Int32.toInt_ofNat_of_lt (by omega), Int32.toInt_ofNat_of_lt (by omega)]; omega
theorem own_ofnl {i n : Nat} (h : ¬ i < n) (hi : i < 2 ^ 31) (hn : n < 2 ^ 31) : ¬ Int32.ofNat i < Int32.ofNat n := by
  rw [Int32.lt_iff_toInt_lt, Int32.toInt_ofNat_of_lt (by omega), Int32.toInt_ofNat_of_lt (by omega)]; omega
theorem own_ofn0 {i : Nat} (hi : i < 2 ^ 31) : ¬ Int32.ofNat i < 0 := by
  rw [Int32.lt_iff_toInt_lt, Int32.toInt_ofNat_of_lt (by omega)]; have : (0 : Int32).toInt = 0 := rfl; omega
theorem own_ofinj {i n : Nat} (hi : i < 2 ^ 31) (hn : n < 2 ^ 31) (h : Int32.ofNat i = Int32.ofNat n) : i = n := by
  have q := congrArg Int32.toInt h
  rw [Int32.toInt_ofNat_of_lt (by omega), Int32.toInt_ofNat_of_lt (by omega)] at q; omega
theorem own_clamp {i : Nat} (hi : i < 2 ^ 31) : (Int32.ofNat i).toNatClampNeg = i := by
  have q : (Int32.ofNat i).toInt = i := Int32.toInt_ofNat_of_lt (by omega)
  simp [Int32.toNatClampNeg, q]
theorem own_getD (bs : List Int32) (i : Nat) : (bs.map Value.int).getD i (.int (0 : Int32)) = .int (bs.getD i 0) := by
  simp only [List.getD_eq_getElem?_getD, List.getElem?_map]
  cases bs[i]? <;> rfl
theorem own_take {bs ds : List Int32} {i : Nat} (h1 : i < bs.length) (h2 : i < ds.length) (h : bs.take i = ds.take i) (q : bs.getD i 0 = ds.getD i 0) : bs.take (i + 1) = ds.take (i + 1) := by
  have a1 : bs.getD i 0 = bs[i] := by simp [List.getD_eq_getElem?_getD, h1]
  have a2 : ds.getD i 0 = ds[i] := by simp [List.getD_eq_getElem?_getD, h2]
  rw [List.take_succ_eq_append_getElem h1, List.take_succ_eq_append_getElem h2, h, ← a1, ← a2, q]
theorem own_one (i : Nat) : Int32.ofNat i + (1 : Int32) = Int32.ofNat (i + 1) := (Int32.ofNat_add i 1).symm
theorem d6_0 : decode jdk_43_method_13_code 0 = .ok (.aload_n 0, 1) := by decide +kernel
theorem d6_1 : decode jdk_43_method_13_code 1 = .ok (.arraylength, 1) := by decide +kernel
theorem d6_2 : decode jdk_43_method_13_code 2 = .ok (.aload_n 1, 1) := by decide +kernel
theorem d6_3 : decode jdk_43_method_13_code 3 = .ok (.arraylength, 1) := by decide +kernel
theorem d6_4 : decode jdk_43_method_13_code 4 = .ok (.if_icmp .ne 30, 3) := by decide +kernel
theorem d6_7 : decode jdk_43_method_13_code 7 = .ok (.iconst 0, 1) := by decide +kernel
theorem d6_8 : decode jdk_43_method_13_code 8 = .ok (.istore_n 2, 1) := by decide +kernel
theorem d6_9 : decode jdk_43_method_13_code 9 = .ok (.iload_n 2, 1) := by decide +kernel
theorem d6_10 : decode jdk_43_method_13_code 10 = .ok (.aload_n 0, 1) := by decide +kernel
theorem d6_11 : decode jdk_43_method_13_code 11 = .ok (.arraylength, 1) := by decide +kernel
theorem d6_12 : decode jdk_43_method_13_code 12 = .ok (.if_icmp .ge 20, 3) := by decide +kernel
theorem d6_32 : decode jdk_43_method_13_code 32 = .ok (.iconst 1, 1) := by decide +kernel
theorem d6_33 : decode jdk_43_method_13_code 33 = .ok (.ireturn, 1) := by decide +kernel
theorem d6_15 : decode jdk_43_method_13_code 15 = .ok (.aload_n 0, 1) := by decide +kernel
theorem d6_16 : decode jdk_43_method_13_code 16 = .ok (.iload_n 2, 1) := by decide +kernel
theorem d6_17 : decode jdk_43_method_13_code 17 = .ok (.baload, 1) := by decide +kernel
theorem d6_18 : decode jdk_43_method_13_code 18 = .ok (.aload_n 1, 1) := by decide +kernel
theorem d6_19 : decode jdk_43_method_13_code 19 = .ok (.iload_n 2, 1) := by decide +kernel
theorem d6_20 : decode jdk_43_method_13_code 20 = .ok (.baload, 1) := by decide +kernel
theorem d6_21 : decode jdk_43_method_13_code 21 = .ok (.if_icmp .eq 5, 3) := by decide +kernel
theorem d6_26 : decode jdk_43_method_13_code 26 = .ok (.iinc 2 1, 3) := by decide +kernel
theorem d6_29 : decode jdk_43_method_13_code 29 = .ok (.goto (-20), 3) := by decide +kernel
theorem d6_24 : decode jdk_43_method_13_code 24 = .ok (.iconst 0, 1) := by decide +kernel
theorem d6_25 : decode jdk_43_method_13_code 25 = .ok (.ireturn, 1) := by decide +kernel
theorem d6_34 : decode jdk_43_method_13_code 34 = .ok (.iconst 0, 1) := by decide +kernel
theorem d6_35 : decode jdk_43_method_13_code 35 = .ok (.ireturn, 1) := by decide +kernel
def rr_eqLatin : Room := { frames := 0, cells := 0, slots := 0, locals := 0 }
theorem pn0 : plainName "java/lang/StringLatin1" = true := by first | (simp [plainName, overriddenIn]; done) | decide +kernel
set_option maxRecDepth 65536 in
set_option maxHeartbeats 40000000 in
theorem rm_eqLatin (l : Launch) (Z : State) (a0 : Array Value) (hw : ∀ d ∈ tables_1, d.before a0 Z = true) (ws : List Jvm.Cond) (t u : Addr) (k k' : ClassId) (bs ds : List Int32) (h0 : Heap) (n0 : Nat) (Z0 : n0 ≤ h0.size) (V1 : Arv Z h0 t k .byte (Int32.ofNat bs.length) (bs.map Value.int) (.int (0 : Int32))) (V2 : Arv Z h0 u k' .byte (Int32.ofNat ds.length) (ds.map Value.int) (.int (0 : Int32))) (lb : bs.length < 2 ^ 31) (ld : ds.length < 2 ^ 31) :
    Con l Z (⟨"java/lang/StringLatin1", "equals", "([B[B)Z"⟩ : MethodName) jdk_43_method_13_code 3 (some .boolean) ws rr_eqLatin #[(.ref t), (.ref u)] h0 (fun v h L => ∃ r : Int32, v = some (.int r) ∧ ((r = 1 ∧ bs = ds) ∨ (r = 0 ∧ ¬ bs = ds)) ∧ Fr n0 L ∧ h = h0) := by
  refine Con.enter (plainFor_of_name pn0) ?_
  intro p e s m below meth c s₁ X0 hx hZ hby hml hret hlk hown hnm e0
  have N0 := Fr.nil n0
  refine Go.cast (g' := (mkF m 0 #[.val (.ref t), .val (.ref u), .unset] [])) (by first | rfl | (simp [entryFrame, mkF, argsToLocals, Value.category]; done)) ?_
  refine Go.st (T' := s₁) (g' := (mkF m 1 #[.val (.ref t), .val (.ref u), .unset] [(.ref t)])) (fun _ zk => XS.aloadN X0.here hx rfl (hb hby d6_0) rfl rfl zk) ?_
  refine Go.st (T' := s₁) (g' := (mkF m 2 #[.val (.ref t), .val (.ref u), .unset] [(.int (Int32.ofNat bs.length))])) (fun _ zk => lenV X0 hx hZ e0 V1 (g := (mkF m 1 #[.val (.ref t), .val (.ref u), .unset] [(.ref t)])) rfl (rest := []) rfl (hb hby d6_1) zk) ?_
  refine Go.st (T' := s₁) (g' := (mkF m 3 #[.val (.ref t), .val (.ref u), .unset] [(.ref u), (.int (Int32.ofNat bs.length))])) (fun _ zk => XS.aloadN X0.here hx rfl (hb hby d6_2) rfl rfl zk) ?_
  refine Go.st (T' := s₁) (g' := (mkF m 4 #[.val (.ref t), .val (.ref u), .unset] [(.int (Int32.ofNat ds.length)), (.int (Int32.ofNat bs.length))])) (fun _ zk => lenV X0 hx hZ e0 V2 (g := (mkF m 3 #[.val (.ref t), .val (.ref u), .unset] [(.ref u), (.int (Int32.ofNat bs.length))])) rfl (rest := [(.int (Int32.ofNat bs.length))]) rfl (hb hby d6_3) zk) ?_
  by_cases hc4 : (Int32.ofNat bs.length) = (Int32.ofNat ds.length)
  · refine Go.st (T' := s₁) (g' := (mkF m 7 #[.val (.ref t), .val (.ref u), .unset] [])) (fun _ zk => XS.icmpNo X0.here hx rfl (hb hby d6_4) rfl (teq hc4).2 zk) ?_
    have hl : bs.length = ds.length := own_ofinj lb ld hc4
    refine Go.st (T' := s₁) (g' := (mkF m 8 #[.val (.ref t), .val (.ref u), .unset] [(.int (0 : Int32))])) (fun _ zk => XS.iconst X0.here hx rfl (hb hby d6_7) zk) ?_
    refine Go.st (T' := s₁) (g' := (mkF m 9 #[.val (.ref t), .val (.ref u), .val (.int (0 : Int32))] [])) (fun _ zk => XS.istoreN X0.here hx rfl (hb hby d6_8) rfl (l' := #[.val (.ref t), .val (.ref u), .val (.int (0 : Int32))]) rfl zk) ?_
    have loop : ∀ (q i : Nat), i + q = bs.length → bs.take i = ds.take i → Go p.tables e below (FinP s (fun v h L => ∃ r : Int32, v = some (.int r) ∧ ((r = 1 ∧ bs = ds) ∨ (r = 0 ∧ ¬ bs = ds)) ∧ Fr n0 L ∧ h = h0) rr_eqLatin.cells rr_eqLatin.slots) s₁ (mkF m 9 #[.val (.ref t), .val (.ref u), .val (.int (Int32.ofNat i))] []) := by
      intro q
      induction q with
      | zero =>
        intro i hi ht
        refine Go.st (T' := s₁) (g' := (mkF m 10 #[.val (.ref t), .val (.ref u), .val (.int (Int32.ofNat i))] [(.int (Int32.ofNat i))])) (fun _ zk => XS.iloadN X0.here hx rfl (hb hby d6_9) rfl zk) ?_
        refine Go.st (T' := s₁) (g' := (mkF m 11 #[.val (.ref t), .val (.ref u), .val (.int (Int32.ofNat i))] [(.ref t), (.int (Int32.ofNat i))])) (fun _ zk => XS.aloadN X0.here hx rfl (hb hby d6_10) rfl rfl zk) ?_
        refine Go.st (T' := s₁) (g' := (mkF m 12 #[.val (.ref t), .val (.ref u), .val (.int (Int32.ofNat i))] [(.int (Int32.ofNat bs.length)), (.int (Int32.ofNat i))])) (fun _ zk => lenV X0 hx hZ e0 V1 (g := (mkF m 11 #[.val (.ref t), .val (.ref u), .val (.int (Int32.ofNat i))] [(.ref t), (.int (Int32.ofNat i))])) rfl (rest := [(.int (Int32.ofNat i))]) rfl (hb hby d6_11) zk) ?_
        refine Go.st (T' := s₁) (g' := (mkF m 32 #[.val (.ref t), .val (.ref u), .val (.int (Int32.ofNat i))] [])) (fun _ zk => XS.icmpYes X0.here hx rfl (pc0 := 12) (pc' := 32) rfl (hb hby d6_12) rfl (flt (own_ofnl (by omega) (by omega) (by omega) : ¬ ((Int32.ofNat i) < (Int32.ofNat bs.length)))).2.1 (by decide) (by decide) zk) ?_
        refine Go.st (T' := s₁) (g' := (mkF m 33 #[.val (.ref t), .val (.ref u), .val (.int (Int32.ofNat i))] [(.int (1 : Int32))])) (fun _ zk => XS.iconst X0.here hx rfl (hb hby d6_32) zk) ?_
        refine Go.retN X0 hx hlk hret rfl (by simp) (hb hby d6_33) (by decide) (by decide) e0 ?_
        rw [List.take_of_length_le (by omega), List.take_of_length_le (by omega)] at ht
        exact ⟨_, rfl, Or.inl ⟨rfl, ht⟩, N0, rfl⟩
      | succ q ih =>
        intro i hi ht
        refine Go.st (T' := s₁) (g' := (mkF m 10 #[.val (.ref t), .val (.ref u), .val (.int (Int32.ofNat i))] [(.int (Int32.ofNat i))])) (fun _ zk => XS.iloadN X0.here hx rfl (hb hby d6_9) rfl zk) ?_
        refine Go.st (T' := s₁) (g' := (mkF m 11 #[.val (.ref t), .val (.ref u), .val (.int (Int32.ofNat i))] [(.ref t), (.int (Int32.ofNat i))])) (fun _ zk => XS.aloadN X0.here hx rfl (hb hby d6_10) rfl rfl zk) ?_
        refine Go.st (T' := s₁) (g' := (mkF m 12 #[.val (.ref t), .val (.ref u), .val (.int (Int32.ofNat i))] [(.int (Int32.ofNat bs.length)), (.int (Int32.ofNat i))])) (fun _ zk => lenV X0 hx hZ e0 V1 (g := (mkF m 11 #[.val (.ref t), .val (.ref u), .val (.int (Int32.ofNat i))] [(.ref t), (.int (Int32.ofNat i))])) rfl (rest := [(.int (Int32.ofNat i))]) rfl (hb hby d6_11) zk) ?_
        refine Go.st (T' := s₁) (g' := (mkF m 15 #[.val (.ref t), .val (.ref u), .val (.int (Int32.ofNat i))] [])) (fun _ zk => XS.icmpNo X0.here hx rfl (hb hby d6_12) rfl (tlt (own_oflt (by omega) (by omega) : (Int32.ofNat i) < (Int32.ofNat bs.length))).2.1 zk) ?_
        refine Go.st (T' := s₁) (g' := (mkF m 16 #[.val (.ref t), .val (.ref u), .val (.int (Int32.ofNat i))] [(.ref t)])) (fun _ zk => XS.aloadN X0.here hx rfl (hb hby d6_15) rfl rfl zk) ?_
        refine Go.st (T' := s₁) (g' := (mkF m 17 #[.val (.ref t), .val (.ref u), .val (.int (Int32.ofNat i))] [(.int (Int32.ofNat i)), (.ref t)])) (fun _ zk => XS.iloadN X0.here hx rfl (hb hby d6_16) rfl zk) ?_
        refine Go.st (T' := s₁) (g' := (mkF m 18 #[.val (.ref t), .val (.ref u), .val (.int (Int32.ofNat i))] [(.int (bs.getD i 0))])) (fun _ zk => ldBV X0 hx hZ e0 V1 (j := (Int32.ofNat i)) ⟨own_ofn0 (by omega), own_oflt (by omega) (by omega)⟩ (v := (.int (bs.getD i 0))) (by rw [own_clamp (by omega)]; exact own_getD bs i) (g := (mkF m 17 #[.val (.ref t), .val (.ref u), .val (.int (Int32.ofNat i))] [(.int (Int32.ofNat i)), (.ref t)])) rfl (rest := []) rfl (hb hby d6_17) zk) ?_
        refine Go.st (T' := s₁) (g' := (mkF m 19 #[.val (.ref t), .val (.ref u), .val (.int (Int32.ofNat i))] [(.ref u), (.int (bs.getD i 0))])) (fun _ zk => XS.aloadN X0.here hx rfl (hb hby d6_18) rfl rfl zk) ?_
        refine Go.st (T' := s₁) (g' := (mkF m 20 #[.val (.ref t), .val (.ref u), .val (.int (Int32.ofNat i))] [(.int (Int32.ofNat i)), (.ref u), (.int (bs.getD i 0))])) (fun _ zk => XS.iloadN X0.here hx rfl (hb hby d6_19) rfl zk) ?_
        refine Go.st (T' := s₁) (g' := (mkF m 21 #[.val (.ref t), .val (.ref u), .val (.int (Int32.ofNat i))] [(.int (ds.getD i 0)), (.int (bs.getD i 0))])) (fun _ zk => ldBV X0 hx hZ e0 V2 (j := (Int32.ofNat i)) ⟨own_ofn0 (by omega), own_oflt (by omega) (by omega)⟩ (v := (.int (ds.getD i 0))) (by rw [own_clamp (by omega)]; exact own_getD ds i) (g := (mkF m 20 #[.val (.ref t), .val (.ref u), .val (.int (Int32.ofNat i))] [(.int (Int32.ofNat i)), (.ref u), (.int (bs.getD i 0))])) rfl (rest := [(.int (bs.getD i 0))]) rfl (hb hby d6_20) zk) ?_
        by_cases hc21 : (bs.getD i 0) = (ds.getD i 0)
        · refine Go.st (T' := s₁) (g' := (mkF m 26 #[.val (.ref t), .val (.ref u), .val (.int (Int32.ofNat i))] [])) (fun _ zk => XS.icmpYes X0.here hx rfl (pc0 := 21) (pc' := 26) rfl (hb hby d6_21) rfl (teq hc21).1 (by decide) (by decide) zk) ?_
          refine Go.st (T' := s₁) (g' := (mkF m 29 #[.val (.ref t), .val (.ref u), .val (.int ((Int32.ofNat i) + (1 : Int32)))] [])) (fun _ zk => XS.iinc X0.here hx rfl (hb hby d6_26) rfl (l' := #[.val (.ref t), .val (.ref u), .val (.int ((Int32.ofNat i) + (1 : Int32)))]) rfl zk) ?_
          refine Go.st (T' := s₁) (g' := (mkF m 9 #[.val (.ref t), .val (.ref u), .val (.int ((Int32.ofNat i) + (1 : Int32)))] [])) (fun _ zk => XS.goto X0.here hx rfl (pc0 := 29) (pc' := 9) rfl (hb hby d6_29) (by decide) (by decide) zk) ?_
          rw [own_one]
          exact ih (i + 1) (by omega) (own_take (by omega) (by omega) ht hc21)
        · refine Go.st (T' := s₁) (g' := (mkF m 24 #[.val (.ref t), .val (.ref u), .val (.int (Int32.ofNat i))] [])) (fun _ zk => XS.icmpNo X0.here hx rfl (hb hby d6_21) rfl (feq hc21).1 zk) ?_
          refine Go.st (T' := s₁) (g' := (mkF m 25 #[.val (.ref t), .val (.ref u), .val (.int (Int32.ofNat i))] [(.int (0 : Int32))])) (fun _ zk => XS.iconst X0.here hx rfl (hb hby d6_24) zk) ?_
          refine Go.retN X0 hx hlk hret rfl (by simp) (hb hby d6_25) (by decide) (by decide) e0 ?_
          exact ⟨_, rfl, Or.inr ⟨rfl, fun q' => hc21 (by rw [q'])⟩, N0, rfl⟩
    exact loop bs.length 0 (by omega) rfl
  · refine Go.st (T' := s₁) (g' := (mkF m 34 #[.val (.ref t), .val (.ref u), .unset] [])) (fun _ zk => XS.icmpYes X0.here hx rfl (pc0 := 4) (pc' := 34) rfl (hb hby d6_4) rfl (feq hc4).2 (by decide) (by decide) zk) ?_
    refine Go.st (T' := s₁) (g' := (mkF m 35 #[.val (.ref t), .val (.ref u), .unset] [(.int (0 : Int32))])) (fun _ zk => XS.iconst X0.here hx rfl (hb hby d6_34) zk) ?_
    refine Go.retN X0 hx hlk hret rfl (by simp) (hb hby d6_35) (by decide) (by decide) e0 ?_
    exact ⟨_, rfl, Or.inr ⟨rfl, fun q' => hc4 (by rw [q'])⟩, N0, rfl⟩
theorem d5_0 : decode jdk_42_method_66_code 0 = .ok (.aload_n 0, 1) := by decide +kernel
theorem d5_1 : decode jdk_42_method_66_code 1 = .ok (.aload_n 1, 1) := by decide +kernel
theorem d5_2 : decode jdk_42_method_66_code 2 = .ok (.if_acmp .ne 5, 3) := by decide +kernel
theorem d5_5 : decode jdk_42_method_66_code 5 = .ok (.iconst 1, 1) := by decide +kernel
theorem d5_6 : decode jdk_42_method_66_code 6 = .ok (.ireturn, 1) := by decide +kernel
theorem d5_7 : decode jdk_42_method_66_code 7 = .ok (.aload_n 1, 1) := by decide +kernel
theorem d5_8 : decode jdk_42_method_66_code 8 = .ok (.instanceof 10, 3) := by decide +kernel
theorem w34 {a0 : Array Value} {Z : State} (hw : ∀ d ∈ tables_1, d.before a0 Z = true) : ((Jvm.Cond.classLink "java/lang/String" (10 : Nat) "java/lang/String")).before a0 Z = true := hw _ (List.mem_of_getElem? (i := 34) rfl)
theorem d5_11 : decode jdk_42_method_66_code 11 = .ok (.ifCond .eq 43, 3) := by decide +kernel
theorem d5_14 : decode jdk_42_method_66_code 14 = .ok (.aload_n 1, 1) := by decide +kernel
theorem d5_15 : decode jdk_42_method_66_code 15 = .ok (.checkcast 10, 3) := by decide +kernel
theorem d5_18 : decode jdk_42_method_66_code 18 = .ok (.astore_n 2, 1) := by decide +kernel
theorem d5_19 : decode jdk_42_method_66_code 19 = .ok (.getstatic 38, 3) := by decide +kernel
theorem w35 {a0 : Array Value} {Z : State} (hw : ∀ d ∈ tables_1, d.before a0 Z = true) : ((Jvm.Cond.fieldLink "java/lang/String" (38 : Nat) "java/lang/String" "COMPACT_STRINGS" "Z")).before a0 Z = true := hw _ (List.mem_of_getElem? (i := 35) rfl)
theorem d5_22 : decode jdk_42_method_66_code 22 = .ok (.ifCond .eq 14, 3) := by decide +kernel
theorem d5_25 : decode jdk_42_method_66_code 25 = .ok (.aload_n 0, 1) := by decide +kernel
theorem d5_26 : decode jdk_42_method_66_code 26 = .ok (.getfield 15, 3) := by decide +kernel
theorem w27 {a0 : Array Value} {Z : State} (hw : ∀ d ∈ tables_1, d.before a0 Z = true) : ((Jvm.Cond.fieldLink "java/lang/String" (15 : Nat) "java/lang/String" "coder" "B")).before a0 Z = true := hw _ (List.mem_of_getElem? (i := 27) rfl)
theorem d5_29 : decode jdk_42_method_66_code 29 = .ok (.aload_n 2, 1) := by decide +kernel
theorem d5_30 : decode jdk_42_method_66_code 30 = .ok (.getfield 15, 3) := by decide +kernel
theorem d5_33 : decode jdk_42_method_66_code 33 = .ok (.if_icmp .ne 21, 3) := by decide +kernel
theorem d5_36 : decode jdk_42_method_66_code 36 = .ok (.aload_n 0, 1) := by decide +kernel
theorem d5_37 : decode jdk_42_method_66_code 37 = .ok (.getfield 9, 3) := by decide +kernel
theorem w26 {a0 : Array Value} {Z : State} (hw : ∀ d ∈ tables_1, d.before a0 Z = true) : ((Jvm.Cond.fieldLink "java/lang/String" (9 : Nat) "java/lang/String" "value" "[B")).before a0 Z = true := hw _ (List.mem_of_getElem? (i := 26) rfl)
theorem d5_40 : decode jdk_42_method_66_code 40 = .ok (.aload_n 2, 1) := by decide +kernel
theorem d5_41 : decode jdk_42_method_66_code 41 = .ok (.getfield 9, 3) := by decide +kernel
theorem w39 {a0 : Array Value} {Z : State} (hw : ∀ d ∈ tables_1, d.before a0 Z = true) : ((Jvm.Cond.code ({ cls := "java/lang/StringLatin1", name := "equals", desc := "([B[B)Z" } : Jvm.MethodName) jdk_43_method_13_code (3 : Nat) (Option.some Jvm.ClassFile.FieldType.boolean))).before a0 Z = true := hw _ (List.mem_of_getElem? (i := 39) rfl)
theorem w38 {a0 : Array Value} {Z : State} (hw : ∀ d ∈ tables_1, d.before a0 Z = true) : ((Jvm.Cond.initialized "java/lang/StringLatin1")).before a0 Z = true := hw _ (List.mem_of_getElem? (i := 38) rfl)
theorem pd1 : parseMethodDescriptor "([B[B)Z" = some ⟨[(.array .byte), (.array .byte)], some .boolean⟩ := by decide +kernel
theorem d5_44 : decode jdk_42_method_66_code 44 = .ok (.invokestatic 541, 3) := by decide +kernel
theorem w36 {a0 : Array Value} {Z : State} (hw : ∀ d ∈ tables_1, d.before a0 Z = true) : ((Jvm.Cond.methodLink "java/lang/String" (541 : Nat) ({ cls := "java/lang/StringLatin1", name := "equals", desc := "([B[B)Z" } : Jvm.MethodName))).before a0 Z = true := hw _ (List.mem_of_getElem? (i := 36) rfl)
theorem w37 {a0 : Array Value} {Z : State} (hw : ∀ d ∈ tables_1, d.before a0 Z = true) : ((Jvm.Cond.static ({ cls := "java/lang/StringLatin1", name := "equals", desc := "([B[B)Z" } : Jvm.MethodName))).before a0 Z = true := hw _ (List.mem_of_getElem? (i := 37) rfl)
theorem d5_47 : decode jdk_42_method_66_code 47 = .ok (.ifCond .eq 7, 3) := by decide +kernel
theorem d5_54 : decode jdk_42_method_66_code 54 = .ok (.iconst 0, 1) := by decide +kernel
theorem d5_55 : decode jdk_42_method_66_code 55 = .ok (.ireturn, 1) := by decide +kernel
theorem d5_50 : decode jdk_42_method_66_code 50 = .ok (.iconst 1, 1) := by decide +kernel
theorem d5_51 : decode jdk_42_method_66_code 51 = .ok (.goto 4, 3) := by decide +kernel
def rr_eqStr : Room := { frames := 1, cells := 0, slots := 0, locals := 14 }
theorem pn2 : plainName "java/lang/String" = true := by first | (simp [plainName, overriddenIn]; done) | decide +kernel
set_option maxRecDepth 65536 in
set_option maxHeartbeats 40000000 in
theorem rm_eqStr (l : Launch) (Z : State) (a0 : Array Value) (hw : ∀ d ∈ tables_1, d.before a0 Z = true) (ws : List Jvm.Cond) (a b : Addr) (cd cd' zc : Int32) (bs ds : List Int32) (h0 : Heap) (n0 : Nat) (Z0 : n0 ≤ h0.size) (O0 : Old Z n0 h0) (S1 : StrB Z h0 a cd bs) (S2 : StrB Z h0 b cd' ds) (lb : bs.length < 2 ^ 31) (ld : ds.length < 2 ^ 31) (CS : Sta Z Z.heap "java/lang/String" "COMPACT_STRINGS" "Z" (.int zc)) (hz : ¬ zc = 0) :
    Con l Z (⟨"java/lang/String", "equals", "(Ljava/lang/Object;)Z"⟩ : MethodName) jdk_42_method_66_code 3 (some .boolean) ws rr_eqStr #[(.ref a), (.ref b)] h0 (fun v h L => ∃ r : Int32, v = some (.int r) ∧ ((r = 1 ∧ cd = cd' ∧ bs = ds) ∨ (r = 0 ∧ ¬ (cd = cd' ∧ bs = ds))) ∧ Fr n0 L ∧ h = h0) := by
  refine Con.enter (plainFor_of_name pn2) ?_
  intro p e s m below meth c s₁ X0 hx hZ hby hml hret hlk hown hnm e0
  have N0 := Fr.nil n0
  refine Go.cast (g' := (mkF m 0 #[.val (.ref a), .val (.ref b), .unset] [])) (by first | rfl | (simp [entryFrame, mkF, argsToLocals, Value.category]; done)) ?_
  have S1' := S1
  have S2' := S2
  obtain ⟨t1, k1, E_a, C_a, F_a, V_a⟩ := S1
  obtain ⟨t2, k2, E_b, C_b, F_b, V_b⟩ := S2
  refine Go.st (T' := s₁) (g' := (mkF m 1 #[.val (.ref a), .val (.ref b), .unset] [(.ref a)])) (fun _ zk => XS.aloadN X0.here hx rfl (hb hby d5_0) rfl rfl zk) ?_
  refine Go.st (T' := s₁) (g' := (mkF m 2 #[.val (.ref a), .val (.ref b), .unset] [(.ref b), (.ref a)])) (fun _ zk => XS.aloadN X0.here hx rfl (hb hby d5_1) rfl rfl zk) ?_
  by_cases hc2 : a = b
  · refine Go.st (T' := s₁) (g' := (mkF m 5 #[.val (.ref a), .val (.ref b), .unset] [])) (fun _ zk => Jvm.RoadKit.acmp (g := (mkF m 2 #[.val (.ref a), .val (.ref b), .unset] [(.ref b), (.ref a)])) X0 hx rfl rfl rfl (pc0 := 2) (pc' := 5) (same := true) rfl (hb hby d5_2) rfl (decide_eq_true (congrArg Value.ref hc2)) (by decide) (by decide) zk) ?_
    refine Go.st (T' := s₁) (g' := (mkF m 6 #[.val (.ref a), .val (.ref b), .unset] [(.int (1 : Int32))])) (fun _ zk => XS.iconst X0.here hx rfl (hb hby d5_5) zk) ?_
    refine Go.retN X0 hx hlk hret rfl (by simp) (hb hby d5_6) (by decide) (by decide) e0 ?_
    subst hc2
    exact ⟨_, rfl, Or.inl ⟨rfl, StrB.uniq lb ld S1' S2'⟩, N0, rfl⟩
  · refine Go.st (T' := s₁) (g' := (mkF m 7 #[.val (.ref a), .val (.ref b), .unset] [])) (fun _ zk => Jvm.RoadKit.acmp (g := (mkF m 2 #[.val (.ref a), .val (.ref b), .unset] [(.ref b), (.ref a)])) X0 hx rfl rfl rfl (pc0 := 2) (pc' := 7) (same := false) rfl (hb hby d5_2) rfl (decide_eq_false fun q => hc2 (Value.ref.inj q)) (by decide) (by decide) zk) ?_
    refine Go.st (T' := s₁) (g' := (mkF m 8 #[.val (.ref a), .val (.ref b), .unset] [(.ref b)])) (fun _ zk => XS.aloadN X0.here hx rfl (hb hby d5_7) rfl rfl zk) ?_
    obtain ⟨T1, X1, e1, st1⟩ := instY X0 hx hZ hown (w34 hw) e0 (Ins.self E_b) (g := (mkF m 8 #[.val (.ref a), .val (.ref b), .unset] [(.ref b)])) rfl rfl (hb hby d5_8)
    refine Go.st (T' := T1) (g' := (mkF m 11 #[.val (.ref a), .val (.ref b), .unset] [(.int (1 : Int32))])) (fun _ zk => st1 _ zk) ?_
    refine Go.st (T' := T1) (g' := (mkF m 14 #[.val (.ref a), .val (.ref b), .unset] [])) (fun _ zk => XS.ifNo X1.here hx rfl (hb hby d5_11) rfl ((if0 _ _).trans (feq ((by decide) : ¬ ((1 : Int32) = (0 : Int32)))).1) zk) ?_
    refine Go.st (T' := T1) (g' := (mkF m 15 #[.val (.ref a), .val (.ref b), .unset] [(.ref b)])) (fun _ zk => XS.aloadN X1.here hx rfl (hb hby d5_14) rfl rfl zk) ?_
    obtain ⟨T2, X2, e2, st2⟩ := castY X1 hx hZ hown (w34 hw) e1 (Ins.self E_b) (g := (mkF m 15 #[.val (.ref a), .val (.ref b), .unset] [(.ref b)])) rfl rfl (hb hby d5_15)
    refine Go.st (T' := T2) (g' := (mkF m 18 #[.val (.ref a), .val (.ref b), .unset] [(.ref b)])) (fun _ zk => st2 _ zk) ?_
    refine Go.st (T' := T2) (g' := (mkF m 19 #[.val (.ref a), .val (.ref b), .val (.ref b)] [])) (fun _ zk => XS.astoreN X2.here hx rfl (hb hby d5_18) rfl rfl (l' := #[.val (.ref a), .val (.ref b), .val (.ref b)]) rfl zk) ?_
    obtain ⟨T3, X3, e3, st3⟩ := getS2 X2 hx hZ hown (host := "") (Or.inl (w35 hw)) Via.refl e2 (CS.ext O0.2) (g := (mkF m 19 #[.val (.ref a), .val (.ref b), .val (.ref b)] [])) rfl (hb hby d5_19)
    refine Go.st (T' := T3) (g' := (mkF m 22 #[.val (.ref a), .val (.ref b), .val (.ref b)] [(.int zc)])) (fun _ zk => st3 _ zk) ?_
    refine Go.st (T' := T3) (g' := (mkF m 25 #[.val (.ref a), .val (.ref b), .val (.ref b)] [])) (fun _ zk => XS.ifNo X3.here hx rfl (hb hby d5_22) rfl ((if0 _ _).trans (feq (hz : ¬ (zc = (0 : Int32)))).1) zk) ?_
    refine Go.st (T' := T3) (g' := (mkF m 26 #[.val (.ref a), .val (.ref b), .val (.ref b)] [(.ref a)])) (fun _ zk => XS.aloadN X3.here hx rfl (hb hby d5_25) rfl rfl zk) ?_
    obtain ⟨T4, X4, e4, st4⟩ := getF X3 hx hZ hown (host := "") (Or.inl (w27 hw)) Via.refl e3 C_a (g := (mkF m 26 #[.val (.ref a), .val (.ref b), .val (.ref b)] [(.ref a)])) rfl rfl (hb hby d5_26)
    refine Go.st (T' := T4) (g' := (mkF m 29 #[.val (.ref a), .val (.ref b), .val (.ref b)] [(.int cd)])) (fun _ zk => st4 _ zk) ?_
    refine Go.st (T' := T4) (g' := (mkF m 30 #[.val (.ref a), .val (.ref b), .val (.ref b)] [(.ref b), (.int cd)])) (fun _ zk => XS.aloadN X4.here hx rfl (hb hby d5_29) rfl rfl zk) ?_
    obtain ⟨T5, X5, e5, st5⟩ := getF X4 hx hZ hown (host := "") (Or.inl (w27 hw)) Via.refl e4 C_b (g := (mkF m 30 #[.val (.ref a), .val (.ref b), .val (.ref b)] [(.ref b), (.int cd)])) rfl rfl (hb hby d5_30)
    refine Go.st (T' := T5) (g' := (mkF m 33 #[.val (.ref a), .val (.ref b), .val (.ref b)] [(.int cd'), (.int cd)])) (fun _ zk => st5 _ zk) ?_
    by_cases hc33 : cd = cd'
    · refine Go.st (T' := T5) (g' := (mkF m 36 #[.val (.ref a), .val (.ref b), .val (.ref b)] [])) (fun _ zk => XS.icmpNo X5.here hx rfl (hb hby d5_33) rfl (teq hc33).2 zk) ?_
      refine Go.st (T' := T5) (g' := (mkF m 37 #[.val (.ref a), .val (.ref b), .val (.ref b)] [(.ref a)])) (fun _ zk => XS.aloadN X5.here hx rfl (hb hby d5_36) rfl rfl zk) ?_
      obtain ⟨T6, X6, e6, st6⟩ := getF X5 hx hZ hown (host := "") (Or.inl (w26 hw)) Via.refl e5 F_a (g := (mkF m 37 #[.val (.ref a), .val (.ref b), .val (.ref b)] [(.ref a)])) rfl rfl (hb hby d5_37)
      refine Go.st (T' := T6) (g' := (mkF m 40 #[.val (.ref a), .val (.ref b), .val (.ref b)] [(.ref t1)])) (fun _ zk => st6 _ zk) ?_
      refine Go.st (T' := T6) (g' := (mkF m 41 #[.val (.ref a), .val (.ref b), .val (.ref b)] [(.ref b), (.ref t1)])) (fun _ zk => XS.aloadN X6.here hx rfl (hb hby d5_40) rfl rfl zk) ?_
      obtain ⟨T7, X7, e7, st7⟩ := getF X6 hx hZ hown (host := "") (Or.inl (w26 hw)) Via.refl e6 F_b (g := (mkF m 41 #[.val (.ref a), .val (.ref b), .val (.ref b)] [(.ref b), (.ref t1)])) rfl rfl (hb hby d5_41)
      refine Go.st (T' := T7) (g' := (mkF m 44 #[.val (.ref a), .val (.ref b), .val (.ref b)] [(.ref t2), (.ref t1)])) (fun _ zk => st7 _ zk) ?_
      refine Go.callSt (y := (⟨"java/lang/StringLatin1", "equals", "([B[B)Z"⟩ : MethodName)) X7 hx hZ hown e7 (w36 hw) (w37 hw) (w38 hw) (w39 hw) (by decide) (argsL := [(.ref t1), (.ref t2)]) (rest := []) (W := 0) (rm_eqLatin l Z a0 hw [] t1 t2 k1 k2 bs ds h0 n0 Z0 V_a V_b lb ld) rfl (lenOf pd1 rfl) rfl (by rw [hml]; rfl) rfl (by show 2 * 0 + _ ≤ _; exact Nat.le_of_eq rfl) (by decide) (by decide) (by decide) (by decide) (hb hby d5_44) ?_
      intro v8 T8 h8 L8 X8 e8 q8
      obtain ⟨r8, hv8, hr8, Nf8, hh8⟩ := q8
      subst hv8
      have E8 : T8.heap = h0 := e8.trans hh8
      have N8 := Fr.app N0 Nf8
      show Go p.tables e below _ T8 (mkF m 47 #[.val (.ref a), .val (.ref b), .val (.ref b)] [(.int r8)])
      by_cases hc47 : r8 = (0 : Int32)
      · refine Go.st (T' := T8) (g' := (mkF m 54 #[.val (.ref a), .val (.ref b), .val (.ref b)] [])) (fun _ zk => XS.ifYes X8.here hx rfl (pc0 := 47) (pc' := 54) rfl (hb hby d5_47) rfl ((if0 _ _).trans (teq hc47).1) (by decide) (by decide) zk) ?_
        refine Go.st (T' := T8) (g' := (mkF m 55 #[.val (.ref a), .val (.ref b), .val (.ref b)] [(.int (0 : Int32))])) (fun _ zk => XS.iconst X8.here hx rfl (hb hby d5_54) zk) ?_
        refine Go.retN X8 hx hlk hret rfl (by simp) (hb hby d5_55) (by decide) (by decide) E8 ?_
        rcases hr8 with ⟨hr1, hr2⟩ | ⟨hr1, hr2⟩
        · first | exact ⟨_, rfl, Or.inl ⟨rfl, hc33, hr2⟩, N8, rfl⟩ | exact absurd (hr1.symm.trans hc47) (by decide)
        · first | exact absurd hr1 hc47 | exact ⟨_, rfl, Or.inr ⟨rfl, fun q => hr2 q.2⟩, N8, rfl⟩
      · refine Go.st (T' := T8) (g' := (mkF m 50 #[.val (.ref a), .val (.ref b), .val (.ref b)] [])) (fun _ zk => XS.ifNo X8.here hx rfl (hb hby d5_47) rfl ((if0 _ _).trans (feq hc47).1) zk) ?_
        refine Go.st (T' := T8) (g' := (mkF m 51 #[.val (.ref a), .val (.ref b), .val (.ref b)] [(.int (1 : Int32))])) (fun _ zk => XS.iconst X8.here hx rfl (hb hby d5_50) zk) ?_
        refine Go.st (T' := T8) (g' := (mkF m 55 #[.val (.ref a), .val (.ref b), .val (.ref b)] [(.int (1 : Int32))])) (fun _ zk => XS.goto X8.here hx rfl (pc0 := 51) (pc' := 55) rfl (hb hby d5_51) (by decide) (by decide) zk) ?_
        refine Go.retN X8 hx hlk hret rfl (by simp) (hb hby d5_55) (by decide) (by decide) E8 ?_
        rcases hr8 with ⟨hr1, hr2⟩ | ⟨hr1, hr2⟩
        · first | exact ⟨_, rfl, Or.inl ⟨rfl, hc33, hr2⟩, N8, rfl⟩ | exact absurd (hr1.symm.trans hc47) (by decide)
        · first | exact absurd hr1 hc47 | exact ⟨_, rfl, Or.inr ⟨rfl, fun q => hr2 q.2⟩, N8, rfl⟩
    · refine Go.st (T' := T5) (g' := (mkF m 54 #[.val (.ref a), .val (.ref b), .val (.ref b)] [])) (fun _ zk => XS.icmpYes X5.here hx rfl (pc0 := 33) (pc' := 54) rfl (hb hby d5_33) rfl (feq hc33).2 (by decide) (by decide) zk) ?_
      refine Go.st (T' := T5) (g' := (mkF m 55 #[.val (.ref a), .val (.ref b), .val (.ref b)] [(.int (0 : Int32))])) (fun _ zk => XS.iconst X5.here hx rfl (hb hby d5_54) zk) ?_
      refine Go.retN X5 hx hlk hret rfl (by simp) (hb hby d5_55) (by decide) (by decide) e5 ?_
      exact ⟨_, rfl, Or.inr ⟨rfl, fun q => hc33 q.1⟩, N0, rfl⟩
theorem own_shr0 (x : Int32) : x >>> ((0 : Int32) &&& 31) = x := Int32.toInt_inj.mp (by rw [c_ishr x 0 0 (by decide)]; simp)
def Enc (n : Nat) (cs xs : List Int32) (cd : Int32) : Prop :=
  (cd = 0 ∧ xs.length = n ∧ (∀ i, i < n → ¬ (255 : Int32) < cs.getD i 0) ∧ ∀ i, i < n → xs.getD i 0 = ((cs.getD i 0).toInt8.toInt32)) ∨
  (cd = 1 ∧ xs.length = 2 * n ∧ (∃ i, i < n ∧ (255 : Int32) < cs.getD i 0) ∧ ∀ i, i < n → xs.getD (2 * i) 0 = ((cs.getD i 0).toInt8.toInt32) ∧ xs.getD (2 * i + 1) 0 = (((cs.getD i 0) >>> ((8 : Int32) &&& 31)).toInt8.toInt32))
def StrC (Z : State) (h : Heap) (a : Addr) (n : Nat) (cs : List Int32) : Prop := ∃ (cd : Int32) (xs : List Int32), Enc n cs xs cd ∧ StrB Z h a cd xs
theorem Enc.cd {n : Nat} {cs xs : List Int32} {cd : Int32} (H : Enc n cs xs cd) : cd = 0 ∨ cd = 1 := by
  rcases H with ⟨h, -⟩ | ⟨h, -⟩
  · exact Or.inl h
  · exact Or.inr h
theorem Enc.len {n : Nat} {cs xs : List Int32} {cd : Int32} (H : Enc n cs xs cd) (hn : n < 2 ^ 30) : xs.length < 2 ^ 31 := by
  rcases H with ⟨-, h, -⟩ | ⟨-, h, -⟩ <;> omega
theorem StrC.ext {Z : State} {h h' : Heap} {a : Addr} {n : Nat} {cs : List Int32} (F : StrC Z h a n cs) (E : Ext h h') : StrC Z h' a n cs := by
  obtain ⟨cd, xs, h1, h2⟩ := F
  exact ⟨cd, xs, h1, h2.ext E⟩
theorem StrC.exa {Z : State} {h : Heap} {a : Addr} {n : Nat} {cs : List Int32} (F : StrC Z h a n cs) : Exa Z h a "java/lang/String" := by
  obtain ⟨cd, xs, h1, h2⟩ := F
  exact h2.exa
theorem StrC.wrO {Z : State} {h h' : Heap} {a0 : Array Value} {a b : Addr} {sl : Nat} {v : Value} {C : String} {kk : Nat} {n : Nat} {cs : List Int32} (F : StrC Z h a n cs) (E : Exa Z h b C) (hC : C ≠ "java/lang/String") (wi : (Cond.instantiable C kk).before a0 Z = true) (W : Wr h h' b sl v) : StrC Z h' a n cs := by
  obtain ⟨cd, xs, h1, h2⟩ := F
  exact ⟨cd, xs, h1, h2.wrO E hC wi W⟩
theorem StrC.keepO {Z : State} {h h' : Heap} {a0 : Array Value} {a b : Addr} {C : String} {kk : Nat} {n : Nat} {cs : List Int32} (F : StrC Z h a n cs) (E : Exa Z h b C) (hC : C ≠ "java/lang/String") (wi : (Cond.instantiable C kk).before a0 Z = true) (K : Keep h h' [b]) : StrC Z h' a n cs := by
  obtain ⟨cd, xs, h1, h2⟩ := F
  exact ⟨cd, xs, h1, h2.keepO E hC wi K⟩
theorem own_rg {cs : List Int32} {i n : Nat} (hr : ∀ c ∈ cs, 0 ≤ c.toInt ∧ c.toInt < 65536) (hl : cs.length = n) (hi : i < n) : 0 ≤ (cs.getD i 0).toInt ∧ (cs.getD i 0).toInt < 65536 := by
  have e : cs.getD i 0 = cs[i] := by simp [List.getD_eq_getElem?_getD, hl, hi]
  rw [e]; exact hr _ (List.getElem_mem (by omega))
theorem own_cc {c : Int32} (h : 0 ≤ c.toInt ∧ c.toInt < 65536) : ((((c.toInt8.toInt32 &&& (255 : Int32)) <<< ((0 : Int32) &&& 31)) ||| (((c >>> ((8 : Int32) &&& 31)).toInt8.toInt32 &&& (255 : Int32)) <<< ((8 : Int32) &&& 31))).toUInt32.toUInt16.toUInt32.toInt32) = c := by
  apply Int32.toInt_inj.mp
  have b1 := c_i2b c
  have s8 := c_ishr c 8 8 (by decide)
  have b2 := c_i2b (c >>> ((8 : Int32) &&& 31))
  generalize (c >>> ((8 : Int32) &&& 31)).toInt8.toInt32 = y at *
  generalize c.toInt8.toInt32 = x at *
  have m1 := c_mask x 255 8 (by decide) (by decide)
  have m2 := c_mask y 255 8 (by decide) (by decide)
  generalize x &&& 255 = u at *
  generalize y &&& 255 = t at *
  have l1 := c_ishl u 0 0 (by decide)
  have l2 := c_ishl t 8 8 (by decide)
  generalize u <<< ((0 : Int32) &&& 31) = p at *
  generalize t <<< ((8 : Int32) &&& 31) = q at *
  have r1 := rng32 p
  have r2 := rng32 q
  have o := c_or' p q 8 (by decide) 256 (by decide) (by omega) (by omega) (by omega)
  have r3 := rng32 (p ||| q)
  have i := c_i2c (p ||| q)
  omega
theorem own_u8c {c : Int32} (h : 0 ≤ c.toInt ∧ c.toInt < 65536) (h2 : ¬ (255 : Int32) < c) : ((c.toInt8.toInt32 &&& (255 : Int32)).toUInt32.toUInt16.toUInt32.toInt32) = c := by
  apply Int32.toInt_inj.mp
  have q : ¬ (255 : Int32).toInt < c.toInt := fun z => h2 (Int32.lt_iff_toInt_lt.mpr z)
  have k : (255 : Int32).toInt = 255 := by decide
  have b1 := c_i2b c
  generalize c.toInt8.toInt32 = x at *
  have m1 := c_mask x 255 8 (by decide) (by decide)
  have i := c_i2c (x &&& 255)
  omega
theorem own_shl1 {n : Nat} (h : n < 2 ^ 30) : (Int32.ofNat n) <<< ((1 : Int32) &&& 31) = Int32.ofNat (2 * n) := by
  apply Int32.toInt_inj.mp
  have l := c_ishl (Int32.ofNat n) 1 1 (by decide)
  have r := rng32 ((Int32.ofNat n) <<< ((1 : Int32) &&& 31))
  have e1 : (Int32.ofNat n).toInt = n := Int32.toInt_ofNat_of_lt (by omega)
  have e2 : (Int32.ofNat (2 * n)).toInt = (2 * n : Nat) := Int32.toInt_ofNat_of_lt (by omega)
  omega
theorem own_shr1 {n : Nat} (h : n < 2 ^ 30) : (Int32.ofNat (2 * n)) >>> ((1 : Int32) &&& 31) = Int32.ofNat n := by
  apply Int32.toInt_inj.mp
  have l := c_ishr (Int32.ofNat (2 * n)) 1 1 (by decide)
  have e1 : (Int32.ofNat n).toInt = n := Int32.toInt_ofNat_of_lt (by omega)
  have e2 : (Int32.ofNat (2 * n)).toInt = (2 * n : Nat) := Int32.toInt_ofNat_of_lt (by omega)
  omega
theorem own_cod {n : Nat} {cs xs : List Int32} {cd : Int32} (H : Enc n cs xs cd) (h0 : 0 < n) (hn : n < 2 ^ 30) : (((Int32.ofNat n - Int32.ofNat xs.length).toUInt32 >>> ((31 : Int32) &&& 31).toUInt32).toInt32).toInt8.toInt32 = cd := by
  have e1 : (Int32.ofNat n).toInt = n := Int32.toInt_ofNat_of_lt (by omega)
  have e2 : (Int32.ofNat xs.length).toInt = (xs.length : Nat) := Int32.toInt_ofNat_of_lt (H.len hn)
  have s := c_isub (Int32.ofNat n) (Int32.ofNat xs.length)
  have r := rng32 (Int32.ofNat n - Int32.ofNat xs.length)
  generalize Int32.ofNat n - Int32.ofNat xs.length = y at *
  have u := c_iushr y 31 31 (by decide) (by decide)
  generalize (y.toUInt32 >>> ((31 : Int32) &&& 31).toUInt32).toInt32 = t at *
  have b := c_i2b t
  have k0 : (0 : Int32).toInt = 0 := by decide
  have k1 : (1 : Int32).toInt = 1 := by decide
  apply Int32.toInt_inj.mp
  rcases H with ⟨h, hl, -⟩ | ⟨h, hl, -⟩ <;> rw [h] <;> omega
theorem own_lenC {n : Nat} {cs xs : List Int32} {cd : Int32} (H : Enc n cs xs cd) (hn : n < 2 ^ 30) : (Int32.ofNat xs.length) >>> (cd &&& 31) = Int32.ofNat n := by
  rcases H with ⟨h, hl, -⟩ | ⟨h, hl, -⟩ <;> rw [h, hl]
  · exact own_shr0 _
  · exact own_shr1 hn
theorem own_inv {P : Nat → Int32 → Prop} {xs : List Int32} {i : Nat} {x : Int32} (H : ∀ j, j < i → P j (xs.getD j 0)) (hi : i < xs.length) (hp : P i x) : ∀ j, j < i + 1 → P j ((xs.set i x).getD j 0) := by
  intro j hj
  by_cases q : j = i
  · subst q; rw [List.getD_eq_getElem?_getD, List.getElem?_set_self hi]; exact hp
  · rw [List.getD_eq_getElem?_getD, List.getElem?_set_ne (Ne.symm q), ← List.getD_eq_getElem?_getD]; exact H j (by omega)
theorem own_inv2 {P : Nat → Int32 → Int32 → Prop} {xs : List Int32} {i : Nat} {x y : Int32} (H : ∀ j, j < i → P j (xs.getD (2 * j) 0) (xs.getD (2 * j + 1) 0)) (hi : 2 * i + 1 < xs.length) (hp : P i x y) : ∀ j, j < i + 1 → P j (((xs.set (2 * i) x).set (2 * i + 1) y).getD (2 * j) 0) (((xs.set (2 * i) x).set (2 * i + 1) y).getD (2 * j + 1) 0) := by
  intro j hj
  simp only [List.getD_eq_getElem?_getD] at H ⊢
  by_cases q : j = i
  · subst q
    rw [List.getElem?_set_ne (by omega), List.getElem?_set_self (by omega), List.getElem?_set_self (by rw [List.length_set]; omega)]; exact hp
  · rw [List.getElem?_set_ne (by omega), List.getElem?_set_ne (by omega), List.getElem?_set_ne (by omega), List.getElem?_set_ne (by omega)]; exact H j (by omega)
theorem own_narB {cd : Int32} (h : cd = 0 ∨ cd = 1) : narrow .byte (.int cd) = .int cd := by rcases h with rfl | rfl <;> rfl
theorem own_fitB {cd : Int32} (h : cd = 0 ∨ cd = 1) : fits .byte (.int cd) = true := by rcases h with rfl | rfl <;> rfl
theorem own_posn {n : Nat} (h0 : 0 < n) (hn : n < 2 ^ 30) : ¬ Int32.ofNat n = 0 := fun q => by
  have := own_ofinj (i := n) (n := 0) (by omega) (by decide) q
  omega
theorem own_newA {Z : State} {h : Heap} {a : Addr} {k : ClassId} {n : Nat} (A : Arr Z h a (newA k .byte (Int32.ofNat n)) .byte) (hn : n < 2 ^ 31) : Arv Z h a k .byte (Int32.ofNat n) ((List.replicate n (0 : Int32)).map Value.int) (.int (0 : Int32)) := by
  rw [List.map_replicate]
  exact (Arv.new A (own_ofn0 hn)).pad (pad_rep [] (.int (0 : Int32)) n)
theorem d13_0 : decode jdk_52_method_21_code 0 = .ok (.iconst 0, 1) := by decide +kernel
theorem d13_1 : decode jdk_52_method_21_code 1 = .ok (.istore 5, 2) := by decide +kernel
theorem d13_3 : decode jdk_52_method_21_code 3 = .ok (.iload 5, 2) := by decide +kernel
theorem d13_5 : decode jdk_52_method_21_code 5 = .ok (.iload 4, 2) := by decide +kernel
theorem d13_7 : decode jdk_52_method_21_code 7 = .ok (.if_icmp .ge 37, 3) := by decide +kernel
theorem d13_44 : decode jdk_52_method_21_code 44 = .ok (.iload 4, 2) := by decide +kernel
theorem d13_46 : decode jdk_52_method_21_code 46 = .ok (.ireturn, 1) := by decide +kernel
theorem d13_10 : decode jdk_52_method_21_code 10 = .ok (.aload_n 0, 1) := by decide +kernel
theorem d13_11 : decode jdk_52_method_21_code 11 = .ok (.iload_n 1, 1) := by decide +kernel
theorem d13_12 : decode jdk_52_method_21_code 12 = .ok (.caload, 1) := by decide +kernel
theorem d13_13 : decode jdk_52_method_21_code 13 = .ok (.istore 6, 2) := by decide +kernel
theorem d13_15 : decode jdk_52_method_21_code 15 = .ok (.iload 6, 2) := by decide +kernel
theorem d13_17 : decode jdk_52_method_21_code 17 = .ok (.sipush 255, 3) := by decide +kernel
theorem d13_20 : decode jdk_52_method_21_code 20 = .ok (.if_icmp .le 6, 3) := by decide +kernel
theorem d13_23 : decode jdk_52_method_21_code 23 = .ok (.iload 5, 2) := by decide +kernel
theorem d13_25 : decode jdk_52_method_21_code 25 = .ok (.ireturn, 1) := by decide +kernel
theorem d13_26 : decode jdk_52_method_21_code 26 = .ok (.aload_n 2, 1) := by decide +kernel
theorem d13_27 : decode jdk_52_method_21_code 27 = .ok (.iload_n 3, 1) := by decide +kernel
theorem d13_28 : decode jdk_52_method_21_code 28 = .ok (.iload 6, 2) := by decide +kernel
theorem d13_30 : decode jdk_52_method_21_code 30 = .ok (.i2b, 1) := by decide +kernel
theorem d13_31 : decode jdk_52_method_21_code 31 = .ok (.bastore, 1) := by decide +kernel
theorem d13_32 : decode jdk_52_method_21_code 32 = .ok (.iinc 1 1, 3) := by decide +kernel
theorem d13_35 : decode jdk_52_method_21_code 35 = .ok (.iinc 3 1, 3) := by decide +kernel
theorem d13_38 : decode jdk_52_method_21_code 38 = .ok (.iinc 5 1, 3) := by decide +kernel
theorem d13_41 : decode jdk_52_method_21_code 41 = .ok (.goto (-38), 3) := by decide +kernel
def rr_cmp5W : Room := { frames := 0, cells := 0, slots := 0, locals := 0 }
theorem pn3 : plainName "java/lang/StringUTF16" = true := by first | (simp [plainName, overriddenIn]; done) | decide +kernel
set_option maxRecDepth 65536 in
set_option maxHeartbeats 40000000 in
theorem rm_cmp5W (l : Launch) (Z : State) (a0 : Array Value) (hw : ∀ d ∈ tables_1, d.before a0 Z = true) (ws : List Jvm.Cond) (b d : Addr) (kC kB : ClassId) (cs xs0 : List Int32) (n : Nat) (h0 : Heap) (n0 : Nat) (Z0 : n0 ≤ h0.size) (VC : Arv Z h0 b kC .char (Int32.ofNat n) (cs.map Value.int) (.int (0 : Int32))) (VB : Arv Z h0 d kB .byte (Int32.ofNat n) (xs0.map Value.int) (.int (0 : Int32))) (hbd : b ≠ d) (gd : n0 ≤ d) (hxs : xs0.length = n) (hcs : cs.length = n) (hn : n < 2 ^ 30) :
    Con l Z (⟨"java/lang/StringUTF16", "compress", "([CI[BII)I"⟩ : MethodName) jdk_52_method_21_code 7 (some .int) ws rr_cmp5W #[(.ref b), (.int (0 : Int32)), (.ref d), (.int (0 : Int32)), (.int (Int32.ofNat n))] h0 (fun v h L => ∃ j : Nat, v = some (.int (Int32.ofNat j)) ∧ j ≤ n ∧ (j < n → (255 : Int32) < cs.getD j 0) ∧ (∀ i, i < j → ¬ (255 : Int32) < cs.getD i 0) ∧ Fr n0 L ∧ Keep h0 h [d] ∧ ∃ xs : List Int32, xs.length = n ∧ Arv Z h d kB .byte (Int32.ofNat n) (xs.map Value.int) (.int (0 : Int32)) ∧ ∀ i, i < j → xs.getD i 0 = ((cs.getD i 0).toInt8.toInt32)) := by
  refine Con.enter (plainFor_of_name pn3) ?_
  intro p e s m below meth c s₁ X0 hx hZ hby hml hret hlk hown hnm e0
  have N0 := Fr.nil n0
  refine Go.cast (g' := (mkF m 0 #[.val (.ref b), .val (.int (0 : Int32)), .val (.ref d), .val (.int (0 : Int32)), .val (.int (Int32.ofNat n)), .unset, .unset] [])) (by first | rfl | (simp [entryFrame, mkF, argsToLocals, Value.category]; done)) ?_
  refine Go.st (T' := s₁) (g' := (mkF m 1 #[.val (.ref b), .val (.int (0 : Int32)), .val (.ref d), .val (.int (0 : Int32)), .val (.int (Int32.ofNat n)), .unset, .unset] [(.int (0 : Int32))])) (fun _ zk => XS.iconst X0.here hx rfl (hb hby d13_0) zk) ?_
  refine Go.st (T' := s₁) (g' := (mkF m 3 #[.val (.ref b), .val (.int (0 : Int32)), .val (.ref d), .val (.int (0 : Int32)), .val (.int (Int32.ofNat n)), .val (.int (0 : Int32)), .unset] [])) (fun _ zk => XS.istore X0.here hx rfl (hb hby d13_1) rfl (l' := #[.val (.ref b), .val (.int (0 : Int32)), .val (.ref d), .val (.int (0 : Int32)), .val (.int (Int32.ofNat n)), .val (.int (0 : Int32)), .unset]) rfl zk) ?_
  have loop : ∀ (q i : Nat), i + q = n → ∀ (T : State) (lc : List Loc) (hL : Heap) (xs : List Int32) (s6 : Slot), (s6 = .unset ∨ ∃ x, s6 = .val (.int x)) → Stand p l e rr_cmp5W s m #[(.ref b), (.int 0), (.ref d), (.int 0), (.int (Int32.ofNat n))] below meth c T lc 0 0 → T.heap = hL → Fr n0 lc → Keep h0 hL [d] → xs.length = n → Arv Z hL d kB .byte (Int32.ofNat n) (xs.map Value.int) (.int (0 : Int32)) → (∀ j, j < i → ¬ (255 : Int32) < cs.getD j 0 ∧ xs.getD j 0 = ((cs.getD j 0).toInt8.toInt32)) → Go p.tables e below (FinP s (fun v h L => ∃ j : Nat, v = some (.int (Int32.ofNat j)) ∧ j ≤ n ∧ (j < n → (255 : Int32) < cs.getD j 0) ∧ (∀ i, i < j → ¬ (255 : Int32) < cs.getD i 0) ∧ Fr n0 L ∧ Keep h0 h [d] ∧ ∃ xs : List Int32, xs.length = n ∧ Arv Z h d kB .byte (Int32.ofNat n) (xs.map Value.int) (.int (0 : Int32)) ∧ ∀ i, i < j → xs.getD i 0 = ((cs.getD i 0).toInt8.toInt32)) rr_cmp5W.cells rr_cmp5W.slots) T (mkF m 3 #[.val (.ref b), .val (.int (Int32.ofNat i)), .val (.ref d), .val (.int (Int32.ofNat i)), .val (.int (Int32.ofNat n)), .val (.int (Int32.ofNat i)), s6] []) := by
    intro q
    induction q with
    | zero =>
      intro i hi T lc hL xs s6 hs6 XL eL NL KL hl VL inv
      refine Go.st (T' := T) (g' := (mkF m 5 #[.val (.ref b), .val (.int (Int32.ofNat i)), .val (.ref d), .val (.int (Int32.ofNat i)), .val (.int (Int32.ofNat n)), .val (.int (Int32.ofNat i)), s6] [(.int (Int32.ofNat i))])) (fun _ zk => XS.iload XL.here hx rfl (hb hby d13_3) rfl zk) ?_
      refine Go.st (T' := T) (g' := (mkF m 7 #[.val (.ref b), .val (.int (Int32.ofNat i)), .val (.ref d), .val (.int (Int32.ofNat i)), .val (.int (Int32.ofNat n)), .val (.int (Int32.ofNat i)), s6] [(.int (Int32.ofNat n)), (.int (Int32.ofNat i))])) (fun _ zk => XS.iload XL.here hx rfl (hb hby d13_5) rfl zk) ?_
      refine Go.st (T' := T) (g' := (mkF m 44 #[.val (.ref b), .val (.int (Int32.ofNat i)), .val (.ref d), .val (.int (Int32.ofNat i)), .val (.int (Int32.ofNat n)), .val (.int (Int32.ofNat i)), s6] [])) (fun _ zk => XS.icmpYes XL.here hx rfl (pc0 := 7) (pc' := 44) rfl (hb hby d13_7) rfl (flt (own_ofnl (by omega) (by omega) (by omega) : ¬ ((Int32.ofNat i) < (Int32.ofNat n)))).2.1 (by decide) (by decide) zk) ?_
      refine Go.st (T' := T) (g' := (mkF m 46 #[.val (.ref b), .val (.int (Int32.ofNat i)), .val (.ref d), .val (.int (Int32.ofNat i)), .val (.int (Int32.ofNat n)), .val (.int (Int32.ofNat i)), s6] [(.int (Int32.ofNat n))])) (fun _ zk => XS.iload XL.here hx rfl (hb hby d13_44) rfl zk) ?_
      refine Go.retN XL hx hlk hret rfl (by simp) (hb hby d13_46) (by decide) (by decide) eL ?_
      exact ⟨n, rfl, Nat.le_refl _, fun q => absurd q (Nat.lt_irrefl _), fun j q => (inv j (by omega)).1, NL, ((Keep.refl h0 [d]).trans KL (allS (P := fun x => x ∈ [d] ∨ h0.size ≤ x) (Or.inl (List.mem_of_getElem? (i := 0) rfl)) all0)), xs, hl, VL, fun j q => (inv j (by omega)).2⟩
    | succ q ih =>
      intro i hi T lc hL xs s6 hs6 XL eL NL KL hl VL inv
      refine Go.st (T' := T) (g' := (mkF m 5 #[.val (.ref b), .val (.int (Int32.ofNat i)), .val (.ref d), .val (.int (Int32.ofNat i)), .val (.int (Int32.ofNat n)), .val (.int (Int32.ofNat i)), s6] [(.int (Int32.ofNat i))])) (fun _ zk => XS.iload XL.here hx rfl (hb hby d13_3) rfl zk) ?_
      refine Go.st (T' := T) (g' := (mkF m 7 #[.val (.ref b), .val (.int (Int32.ofNat i)), .val (.ref d), .val (.int (Int32.ofNat i)), .val (.int (Int32.ofNat n)), .val (.int (Int32.ofNat i)), s6] [(.int (Int32.ofNat n)), (.int (Int32.ofNat i))])) (fun _ zk => XS.iload XL.here hx rfl (hb hby d13_5) rfl zk) ?_
      refine Go.st (T' := T) (g' := (mkF m 10 #[.val (.ref b), .val (.int (Int32.ofNat i)), .val (.ref d), .val (.int (Int32.ofNat i)), .val (.int (Int32.ofNat n)), .val (.int (Int32.ofNat i)), s6] [])) (fun _ zk => XS.icmpNo XL.here hx rfl (hb hby d13_7) rfl (tlt (own_oflt (by omega) (by omega) : (Int32.ofNat i) < (Int32.ofNat n))).2.1 zk) ?_
      refine Go.st (T' := T) (g' := (mkF m 11 #[.val (.ref b), .val (.int (Int32.ofNat i)), .val (.ref d), .val (.int (Int32.ofNat i)), .val (.int (Int32.ofNat n)), .val (.int (Int32.ofNat i)), s6] [(.ref b)])) (fun _ zk => XS.aloadN XL.here hx rfl (hb hby d13_10) rfl rfl zk) ?_
      refine Go.st (T' := T) (g' := (mkF m 12 #[.val (.ref b), .val (.int (Int32.ofNat i)), .val (.ref d), .val (.int (Int32.ofNat i)), .val (.int (Int32.ofNat n)), .val (.int (Int32.ofNat i)), s6] [(.int (Int32.ofNat i)), (.ref b)])) (fun _ zk => XS.iloadN XL.here hx rfl (hb hby d13_11) rfl zk) ?_
      have f1 := (VC.keep KL (ninS hbd nin0))
      refine Go.st (T' := T) (g' := (mkF m 13 #[.val (.ref b), .val (.int (Int32.ofNat i)), .val (.ref d), .val (.int (Int32.ofNat i)), .val (.int (Int32.ofNat n)), .val (.int (Int32.ofNat i)), s6] [(.int (cs.getD i 0))])) (fun _ zk => ldCV XL hx hZ eL f1 (j := (Int32.ofNat i)) ⟨own_ofn0 (by omega), own_oflt (by omega) (by omega)⟩ (v := (.int (cs.getD i 0))) (by rw [own_clamp (by omega)]; exact own_getD _ _) (g := (mkF m 12 #[.val (.ref b), .val (.int (Int32.ofNat i)), .val (.ref d), .val (.int (Int32.ofNat i)), .val (.int (Int32.ofNat n)), .val (.int (Int32.ofNat i)), s6] [(.int (Int32.ofNat i)), (.ref b)])) rfl (rest := []) rfl (hb hby d13_12) zk) ?_
      refine Go.st (T' := T) (g' := (mkF m 15 #[.val (.ref b), .val (.int (Int32.ofNat i)), .val (.ref d), .val (.int (Int32.ofNat i)), .val (.int (Int32.ofNat n)), .val (.int (Int32.ofNat i)), .val (.int (cs.getD i 0))] [])) (fun _ zk => XS.istore XL.here hx rfl (hb hby d13_13) rfl (l' := #[.val (.ref b), .val (.int (Int32.ofNat i)), .val (.ref d), .val (.int (Int32.ofNat i)), .val (.int (Int32.ofNat n)), .val (.int (Int32.ofNat i)), .val (.int (cs.getD i 0))]) (by rcases hs6 with rfl | ⟨x6, rfl⟩ <;> rfl) zk) ?_
      refine Go.st (T' := T) (g' := (mkF m 17 #[.val (.ref b), .val (.int (Int32.ofNat i)), .val (.ref d), .val (.int (Int32.ofNat i)), .val (.int (Int32.ofNat n)), .val (.int (Int32.ofNat i)), .val (.int (cs.getD i 0))] [(.int (cs.getD i 0))])) (fun _ zk => XS.iload XL.here hx rfl (hb hby d13_15) rfl zk) ?_
      refine Go.st (T' := T) (g' := (mkF m 20 #[.val (.ref b), .val (.int (Int32.ofNat i)), .val (.ref d), .val (.int (Int32.ofNat i)), .val (.int (Int32.ofNat n)), .val (.int (Int32.ofNat i)), .val (.int (cs.getD i 0))] [(.int (255 : Int32)), (.int (cs.getD i 0))])) (fun _ zk => XS.sipush XL.here hx rfl (hb hby d13_17) zk) ?_
      by_cases hc20 : (255 : Int32) < (cs.getD i 0)
      · refine Go.st (T' := T) (g' := (mkF m 23 #[.val (.ref b), .val (.int (Int32.ofNat i)), .val (.ref d), .val (.int (Int32.ofNat i)), .val (.int (Int32.ofNat n)), .val (.int (Int32.ofNat i)), .val (.int (cs.getD i 0))] [])) (fun _ zk => XS.icmpNo XL.here hx rfl (hb hby d13_20) rfl (tlt hc20).2.2.2 zk) ?_
        refine Go.st (T' := T) (g' := (mkF m 25 #[.val (.ref b), .val (.int (Int32.ofNat i)), .val (.ref d), .val (.int (Int32.ofNat i)), .val (.int (Int32.ofNat n)), .val (.int (Int32.ofNat i)), .val (.int (cs.getD i 0))] [(.int (Int32.ofNat i))])) (fun _ zk => XS.iload XL.here hx rfl (hb hby d13_23) rfl zk) ?_
        refine Go.retN XL hx hlk hret rfl (by simp) (hb hby d13_25) (by decide) (by decide) eL ?_
        exact ⟨i, rfl, by omega, fun _ => hc20, fun j q => (inv j q).1, NL, ((Keep.refl h0 [d]).trans KL (allS (P := fun x => x ∈ [d] ∨ h0.size ≤ x) (Or.inl (List.mem_of_getElem? (i := 0) rfl)) all0)), xs, hl, VL, fun j q => (inv j q).2⟩
      · refine Go.st (T' := T) (g' := (mkF m 26 #[.val (.ref b), .val (.int (Int32.ofNat i)), .val (.ref d), .val (.int (Int32.ofNat i)), .val (.int (Int32.ofNat n)), .val (.int (Int32.ofNat i)), .val (.int (cs.getD i 0))] [])) (fun _ zk => XS.icmpYes XL.here hx rfl (pc0 := 20) (pc' := 26) rfl (hb hby d13_20) rfl (flt hc20).2.2.2 (by decide) (by decide) zk) ?_
        refine Go.st (T' := T) (g' := (mkF m 27 #[.val (.ref b), .val (.int (Int32.ofNat i)), .val (.ref d), .val (.int (Int32.ofNat i)), .val (.int (Int32.ofNat n)), .val (.int (Int32.ofNat i)), .val (.int (cs.getD i 0))] [(.ref d)])) (fun _ zk => XS.aloadN XL.here hx rfl (hb hby d13_26) rfl rfl zk) ?_
        refine Go.st (T' := T) (g' := (mkF m 28 #[.val (.ref b), .val (.int (Int32.ofNat i)), .val (.ref d), .val (.int (Int32.ofNat i)), .val (.int (Int32.ofNat n)), .val (.int (Int32.ofNat i)), .val (.int (cs.getD i 0))] [(.int (Int32.ofNat i)), (.ref d)])) (fun _ zk => XS.iloadN XL.here hx rfl (hb hby d13_27) rfl zk) ?_
        refine Go.st (T' := T) (g' := (mkF m 30 #[.val (.ref b), .val (.int (Int32.ofNat i)), .val (.ref d), .val (.int (Int32.ofNat i)), .val (.int (Int32.ofNat n)), .val (.int (Int32.ofNat i)), .val (.int (cs.getD i 0))] [(.int (cs.getD i 0)), (.int (Int32.ofNat i)), (.ref d)])) (fun _ zk => XS.iload XL.here hx rfl (hb hby d13_28) rfl zk) ?_
        refine Go.st (T' := T) (g' := (mkF m 31 #[.val (.ref b), .val (.int (Int32.ofNat i)), .val (.ref d), .val (.int (Int32.ofNat i)), .val (.int (Int32.ofNat n)), .val (.int (Int32.ofNat i)), .val (.int (cs.getD i 0))] [(.int ((cs.getD i 0).toInt8.toInt32)), (.int (Int32.ofNat i)), (.ref d)])) (fun _ zk => XS.i2b XL.here hx rfl (hb hby d13_30) rfl zk) ?_
        obtain ⟨T2, h2, X2, e2, W2, V2, st2⟩ := stBV XL hx hZ eL VL (j := (Int32.ofNat i)) (i := i) ⟨own_ofn0 (by omega), own_oflt (by omega) (by omega)⟩ (own_clamp (by omega)) (by simp only [List.length_map, List.length_set]; omega) (g := (mkF m 31 #[.val (.ref b), .val (.int (Int32.ofNat i)), .val (.ref d), .val (.int (Int32.ofNat i)), .val (.int (Int32.ofNat n)), .val (.int (Int32.ofNat i)), .val (.int (cs.getD i 0))] [(.int ((cs.getD i 0).toInt8.toInt32)), (.int (Int32.ofNat i)), (.ref d)])) rfl rfl (hb hby d13_31)
        rw [nar_b, ← List.map_set] at V2
        have N2 := Fr.snoc X2 NL gd
        refine Go.st (T' := T2) (g' := (mkF m 32 #[.val (.ref b), .val (.int (Int32.ofNat i)), .val (.ref d), .val (.int (Int32.ofNat i)), .val (.int (Int32.ofNat n)), .val (.int (Int32.ofNat i)), .val (.int (cs.getD i 0))] [])) (fun _ zk => st2 _ zk) ?_
        refine Go.st (T' := T2) (g' := (mkF m 35 #[.val (.ref b), .val (.int ((Int32.ofNat i) + (1 : Int32))), .val (.ref d), .val (.int (Int32.ofNat i)), .val (.int (Int32.ofNat n)), .val (.int (Int32.ofNat i)), .val (.int (cs.getD i 0))] [])) (fun _ zk => XS.iinc X2.here hx rfl (hb hby d13_32) rfl (l' := #[.val (.ref b), .val (.int ((Int32.ofNat i) + (1 : Int32))), .val (.ref d), .val (.int (Int32.ofNat i)), .val (.int (Int32.ofNat n)), .val (.int (Int32.ofNat i)), .val (.int (cs.getD i 0))]) rfl zk) ?_
        refine Go.st (T' := T2) (g' := (mkF m 38 #[.val (.ref b), .val (.int ((Int32.ofNat i) + (1 : Int32))), .val (.ref d), .val (.int ((Int32.ofNat i) + (1 : Int32))), .val (.int (Int32.ofNat n)), .val (.int (Int32.ofNat i)), .val (.int (cs.getD i 0))] [])) (fun _ zk => XS.iinc X2.here hx rfl (hb hby d13_35) rfl (l' := #[.val (.ref b), .val (.int ((Int32.ofNat i) + (1 : Int32))), .val (.ref d), .val (.int ((Int32.ofNat i) + (1 : Int32))), .val (.int (Int32.ofNat n)), .val (.int (Int32.ofNat i)), .val (.int (cs.getD i 0))]) rfl zk) ?_
        refine Go.st (T' := T2) (g' := (mkF m 41 #[.val (.ref b), .val (.int ((Int32.ofNat i) + (1 : Int32))), .val (.ref d), .val (.int ((Int32.ofNat i) + (1 : Int32))), .val (.int (Int32.ofNat n)), .val (.int ((Int32.ofNat i) + (1 : Int32))), .val (.int (cs.getD i 0))] [])) (fun _ zk => XS.iinc X2.here hx rfl (hb hby d13_38) rfl (l' := #[.val (.ref b), .val (.int ((Int32.ofNat i) + (1 : Int32))), .val (.ref d), .val (.int ((Int32.ofNat i) + (1 : Int32))), .val (.int (Int32.ofNat n)), .val (.int ((Int32.ofNat i) + (1 : Int32))), .val (.int (cs.getD i 0))]) rfl zk) ?_
        refine Go.st (T' := T2) (g' := (mkF m 3 #[.val (.ref b), .val (.int ((Int32.ofNat i) + (1 : Int32))), .val (.ref d), .val (.int ((Int32.ofNat i) + (1 : Int32))), .val (.int (Int32.ofNat n)), .val (.int ((Int32.ofNat i) + (1 : Int32))), .val (.int (cs.getD i 0))] [])) (fun _ zk => XS.goto X2.here hx rfl (pc0 := 41) (pc' := 3) rfl (hb hby d13_41) (by decide) (by decide) zk) ?_
        rw [own_one]
        exact ih (i + 1) (by omega) _ _ _ _ _ (Or.inr ⟨_, rfl⟩) X2 e2 N2 (((Keep.refl h0 [d]).trans KL (allS (P := fun x => x ∈ [d] ∨ h0.size ≤ x) (Or.inl (List.mem_of_getElem? (i := 0) rfl)) all0)).wr W2 (Or.inl (List.mem_of_getElem? (i := 0) rfl))) (by rw [List.length_set]; exact hl) V2 (own_inv (P := fun j x => ¬ (255 : Int32) < cs.getD j 0 ∧ x = ((cs.getD j 0).toInt8.toInt32)) inv (by omega) ⟨hc20, rfl⟩)
  exact loop n 0 (by omega) _ _ _ _ _ (Or.inl rfl) X0 e0 N0 (Keep.refl h0 [d]) hxs VB (fun j q => absurd q (Nat.not_lt_zero _))
theorem d22_0 : decode jdk_52_method_3_code 0 = .ok (.iload_n 0, 1) := by decide +kernel
theorem d22_1 : decode jdk_52_method_3_code 1 = .ok (.ifCond .ge 11, 3) := by decide +kernel
theorem d22_12 : decode jdk_52_method_3_code 12 = .ok (.iload_n 0, 1) := by decide +kernel
theorem d22_13 : decode jdk_52_method_3_code 13 = .ok (.ldc 20, 2) := by decide +kernel
theorem w121 {a0 : Array Value} {Z : State} (hw : ∀ d ∈ tables_1, d.before a0 Z = true) : ((Jvm.Cond.constant "java/lang/StringUTF16" (20 : Nat) (1073741823 : Int32))).before a0 Z = true := hw _ (List.mem_of_getElem? (i := 121) rfl)
theorem d22_15 : decode jdk_52_method_3_code 15 = .ok (.if_icmp .lt 40, 3) := by decide +kernel
theorem d22_55 : decode jdk_52_method_3_code 55 = .ok (.iload_n 0, 1) := by decide +kernel
theorem d22_56 : decode jdk_52_method_3_code 56 = .ok (.iconst 1, 1) := by decide +kernel
theorem d22_57 : decode jdk_52_method_3_code 57 = .ok (.ishl, 1) := by decide +kernel
theorem d22_58 : decode jdk_52_method_3_code 58 = .ok (.ireturn, 1) := by decide +kernel
def rr_nblW : Room := { frames := 0, cells := 0, slots := 0, locals := 0 }
set_option maxRecDepth 65536 in
set_option maxHeartbeats 40000000 in
theorem rm_nblW (l : Launch) (Z : State) (a0 : Array Value) (hw : ∀ d ∈ tables_1, d.before a0 Z = true) (ws : List Jvm.Cond) (n : Nat) (h0 : Heap) (n0 : Nat) (Z0 : n0 ≤ h0.size) (hn : n < 2 ^ 30) (hn' : n < 1073741823) :
    Con l Z (⟨"java/lang/StringUTF16", "newBytesLength", "(I)I"⟩ : MethodName) jdk_52_method_3_code 1 (some .int) ws rr_nblW #[(.int (Int32.ofNat n))] h0 (fun v h L => v = some (.int (Int32.ofNat (2 * n))) ∧ Fr n0 L ∧ h = h0) := by
  refine Con.enter (plainFor_of_name pn3) ?_
  intro p e s m below meth c s₁ X0 hx hZ hby hml hret hlk hown hnm e0
  have N0 := Fr.nil n0
  refine Go.cast (g' := (mkF m 0 #[.val (.int (Int32.ofNat n))] [])) (by first | rfl | (simp [entryFrame, mkF, argsToLocals, Value.category]; done)) ?_
  refine Go.st (T' := s₁) (g' := (mkF m 1 #[.val (.int (Int32.ofNat n))] [(.int (Int32.ofNat n))])) (fun _ zk => XS.iloadN X0.here hx rfl (hb hby d22_0) rfl zk) ?_
  refine Go.st (T' := s₁) (g' := (mkF m 12 #[.val (.int (Int32.ofNat n))] [])) (fun _ zk => XS.ifYes X0.here hx rfl (pc0 := 1) (pc' := 12) rfl (hb hby d22_1) rfl ((if0 _ _).trans (flt (own_ofn0 (by omega) : ¬ ((Int32.ofNat n) < (0 : Int32)))).2.1) (by decide) (by decide) zk) ?_
  refine Go.st (T' := s₁) (g' := (mkF m 13 #[.val (.int (Int32.ofNat n))] [(.int (Int32.ofNat n))])) (fun _ zk => XS.iloadN X0.here hx rfl (hb hby d22_12) rfl zk) ?_
  refine Go.st (T' := s₁) (g' := (mkF m 15 #[.val (.int (Int32.ofNat n))] [(.int (1073741823 : Int32)), (.int (Int32.ofNat n))])) (fun _ zk => X0.ldcI hx hown (mvT hZ (w121 hw)) rfl (hb hby d22_13) zk) ?_
  refine Go.st (T' := s₁) (g' := (mkF m 55 #[.val (.int (Int32.ofNat n))] [])) (fun _ zk => XS.icmpYes X0.here hx rfl (pc0 := 15) (pc' := 55) rfl (hb hby d22_15) rfl (tlt (own_oflt (i := n) (n := 1073741823) hn' (by decide) : (Int32.ofNat n) < (1073741823 : Int32))).1 (by decide) (by decide) zk) ?_
  refine Go.st (T' := s₁) (g' := (mkF m 56 #[.val (.int (Int32.ofNat n))] [(.int (Int32.ofNat n))])) (fun _ zk => XS.iloadN X0.here hx rfl (hb hby d22_55) rfl zk) ?_
  refine Go.st (T' := s₁) (g' := (mkF m 57 #[.val (.int (Int32.ofNat n))] [(.int (1 : Int32)), (.int (Int32.ofNat n))])) (fun _ zk => XS.iconst X0.here hx rfl (hb hby d22_56) zk) ?_
  refine Go.st (T' := s₁) (g' := (mkF m 58 #[.val (.int (Int32.ofNat n))] [(.int ((Int32.ofNat n) <<< ((1 : Int32) &&& 31)))])) (fun _ zk => XS.ishl X0.here hx rfl (hb hby d22_57) rfl zk) ?_
  rw [own_shl1 hn]
  refine Go.retN X0 hx hlk hret rfl (by simp) (hb hby d22_58) (by decide) (by decide) e0 ?_
  exact ⟨rfl, N0, rfl⟩
theorem d21_0 : decode jdk_52_method_2_code 0 = .ok (.iload_n 0, 1) := by decide +kernel
theorem w120 {a0 : Array Value} {Z : State} (hw : ∀ d ∈ tables_1, d.before a0 Z = true) : ((Jvm.Cond.code ({ cls := "java/lang/StringUTF16", name := "newBytesLength", desc := "(I)I" } : Jvm.MethodName) jdk_52_method_3_code (1 : Nat) (Option.some Jvm.ClassFile.FieldType.int))).before a0 Z = true := hw _ (List.mem_of_getElem? (i := 120) rfl)
theorem w82 {a0 : Array Value} {Z : State} (hw : ∀ d ∈ tables_1, d.before a0 Z = true) : ((Jvm.Cond.initialized "java/lang/StringUTF16")).before a0 Z = true := hw _ (List.mem_of_getElem? (i := 82) rfl)
theorem pd4 : parseMethodDescriptor "(I)I" = some ⟨[.int], some .int⟩ := by decide +kernel
theorem d21_1 : decode jdk_52_method_2_code 1 = .ok (.invokestatic 11, 3) := by decide +kernel
theorem w118 {a0 : Array Value} {Z : State} (hw : ∀ d ∈ tables_1, d.before a0 Z = true) : ((Jvm.Cond.methodLink "java/lang/StringUTF16" (11 : Nat) ({ cls := "java/lang/StringUTF16", name := "newBytesLength", desc := "(I)I" } : Jvm.MethodName))).before a0 Z = true := hw _ (List.mem_of_getElem? (i := 118) rfl)
theorem w119 {a0 : Array Value} {Z : State} (hw : ∀ d ∈ tables_1, d.before a0 Z = true) : ((Jvm.Cond.static ({ cls := "java/lang/StringUTF16", name := "newBytesLength", desc := "(I)I" } : Jvm.MethodName))).before a0 Z = true := hw _ (List.mem_of_getElem? (i := 119) rfl)
theorem w21 {a0 : Array Value} {Z : State} (hw : ∀ d ∈ tables_1, d.before a0 Z = true) : ((Jvm.Cond.arrayClass Jvm.ClassFile.FieldType.byte)).before a0 Z = true := hw _ (List.mem_of_getElem? (i := 21) rfl)
theorem d21_4 : decode jdk_52_method_2_code 4 = .ok (.newarray .byte, 2) := by decide +kernel
theorem d21_6 : decode jdk_52_method_2_code 6 = .ok (.areturn, 1) := by decide +kernel
def rr_nbfW : Room := { frames := 1, cells := 1, slots := 20, locals := 12 }
set_option maxRecDepth 65536 in
set_option maxHeartbeats 40000000 in
theorem rm_nbfW (l : Launch) (Z : State) (a0 : Array Value) (hw : ∀ d ∈ tables_1, d.before a0 Z = true) (ws : List Jvm.Cond) (n : Nat) (h0 : Heap) (n0 : Nat) (Z0 : n0 ≤ h0.size) (hcap : n ≤ 10) (hn : n < 2 ^ 30) :
    Con l Z (⟨"java/lang/StringUTF16", "newBytesFor", "(I)[B"⟩ : MethodName) jdk_52_method_2_code 1 (some (.array .byte)) ws rr_nbfW #[(.int (Int32.ofNat n))] h0 (fun v h L => ∃ (t : Addr) (k : ClassId), v = some (.ref t) ∧ Fr n0 L ∧ Ext h0 h ∧ h0.size ≤ t ∧ Arv Z h t k .byte (Int32.ofNat (2 * n)) ((List.replicate (2 * n) (0 : Int32)).map Value.int) (.int (0 : Int32))) := by
  refine Con.enter (plainFor_of_name pn3) ?_
  intro p e s m below meth c s₁ X0 hx hZ hby hml hret hlk hown hnm e0
  have N0 := Fr.nil n0
  refine Go.cast (g' := (mkF m 0 #[.val (.int (Int32.ofNat n))] [])) (by first | rfl | (simp [entryFrame, mkF, argsToLocals, Value.category]; done)) ?_
  refine Go.st (T' := s₁) (g' := (mkF m 1 #[.val (.int (Int32.ofNat n))] [(.int (Int32.ofNat n))])) (fun _ zk => XS.iloadN X0.here hx rfl (hb hby d21_0) rfl zk) ?_
  refine Go.callSt (y := (⟨"java/lang/StringUTF16", "newBytesLength", "(I)I"⟩ : MethodName)) X0 hx hZ hown e0 (w118 hw) (w119 hw) (w82 hw) (w120 hw) (by decide) (argsL := [(.int (Int32.ofNat n))]) (rest := []) (W := 0) (rm_nblW l Z a0 hw [] n h0 n0 Z0 hn (by omega)) rfl (lenOf pd4 rfl) rfl (by rw [hml]; rfl) rfl (by show 2 * 0 + _ ≤ _; exact Nat.le_of_eq rfl) (by decide) (by decide) (by decide) (by decide) (hb hby d21_1) ?_
  intro v1 T1 h1 L1 X1 e1 q1
  obtain ⟨hv1, Nf1, hh1⟩ := q1
  subst hv1
  have E1 : T1.heap = h0 := e1.trans hh1
  have N1 := Fr.app N0 Nf1
  show Go p.tables e below _ T1 (mkF m 4 #[.val (.int (Int32.ofNat n))] [(.int (Int32.ofNat (2 * n)))])
  obtain ⟨T2, h2, k2, X2, e2, E2, A2, st2⟩ := newP (aty := .byte) X1 hx hZ (w21 hw) E1 (g := (mkF m 4 #[.val (.int (Int32.ofNat n))] [(.int (Int32.ofNat (2 * n)))])) rfl (hb hby d21_4) rfl (own_ofn0 (by omega)) (cap := 20) (by rw [own_clamp (by omega)]; exact (by omega)) (by decide) (by decide) (by decide)
  obtain ⟨b2, g2⟩ : ∃ z, z = h0.size := ⟨_, rfl⟩
  rw [← g2] at A2 st2
  have V2 := own_newA A2 (by omega)
  refine Go.st (T' := T2) (g' := (mkF m 6 #[.val (.int (Int32.ofNat n))] [(.ref b2)])) (fun _ zk => st2 _ zk) ?_
  have xt3 : Ext h0 h2 := E2
  refine Go.retA X2 hx hlk hret rfl rfl (hb hby d21_6) (by decide) (by decide) e2 ?_
  exact ⟨_, _, rfl, N1, xt3, (Nat.le_trans (Nat.le_refl _) (Nat.le_of_eq g2.symm)), V2⟩
theorem d23_0 : decode jdk_52_method_4_code 0 = .ok (.getstatic 44, 3) := by decide +kernel
theorem w125 {a0 : Array Value} {Z : State} (hw : ∀ d ∈ tables_1, d.before a0 Z = true) : ((Jvm.Cond.fieldLink "java/lang/StringUTF16" (44 : Nat) "java/lang/StringUTF16" "$assertionsDisabled" "Z")).before a0 Z = true := hw _ (List.mem_of_getElem? (i := 125) rfl)
theorem d23_3 : decode jdk_52_method_4_code 3 = .ok (.ifCond .ne 25, 3) := by decide +kernel
theorem d23_28 : decode jdk_52_method_4_code 28 = .ok (.iload_n 1, 1) := by decide +kernel
theorem d23_29 : decode jdk_52_method_4_code 29 = .ok (.iconst 1, 1) := by decide +kernel
theorem d23_30 : decode jdk_52_method_4_code 30 = .ok (.ishl, 1) := by decide +kernel
theorem d23_31 : decode jdk_52_method_4_code 31 = .ok (.istore_n 1, 1) := by decide +kernel
theorem d23_32 : decode jdk_52_method_4_code 32 = .ok (.aload_n 0, 1) := by decide +kernel
theorem d23_33 : decode jdk_52_method_4_code 33 = .ok (.iload_n 1, 1) := by decide +kernel
theorem d23_34 : decode jdk_52_method_4_code 34 = .ok (.iinc 1 1, 3) := by decide +kernel
theorem d23_37 : decode jdk_52_method_4_code 37 = .ok (.iload_n 2, 1) := by decide +kernel
theorem d23_38 : decode jdk_52_method_4_code 38 = .ok (.getstatic 59, 3) := by decide +kernel
theorem w126 {a0 : Array Value} {Z : State} (hw : ∀ d ∈ tables_1, d.before a0 Z = true) : ((Jvm.Cond.fieldLink "java/lang/StringUTF16" (59 : Nat) "java/lang/StringUTF16" "HI_BYTE_SHIFT" "I")).before a0 Z = true := hw _ (List.mem_of_getElem? (i := 126) rfl)
theorem d23_41 : decode jdk_52_method_4_code 41 = .ok (.ishr, 1) := by decide +kernel
theorem d23_42 : decode jdk_52_method_4_code 42 = .ok (.i2b, 1) := by decide +kernel
theorem d23_43 : decode jdk_52_method_4_code 43 = .ok (.bastore, 1) := by decide +kernel
theorem d23_44 : decode jdk_52_method_4_code 44 = .ok (.aload_n 0, 1) := by decide +kernel
theorem d23_45 : decode jdk_52_method_4_code 45 = .ok (.iload_n 1, 1) := by decide +kernel
theorem d23_46 : decode jdk_52_method_4_code 46 = .ok (.iload_n 2, 1) := by decide +kernel
theorem d23_47 : decode jdk_52_method_4_code 47 = .ok (.getstatic 63, 3) := by decide +kernel
theorem w127 {a0 : Array Value} {Z : State} (hw : ∀ d ∈ tables_1, d.before a0 Z = true) : ((Jvm.Cond.fieldLink "java/lang/StringUTF16" (63 : Nat) "java/lang/StringUTF16" "LO_BYTE_SHIFT" "I")).before a0 Z = true := hw _ (List.mem_of_getElem? (i := 127) rfl)
theorem d23_50 : decode jdk_52_method_4_code 50 = .ok (.ishr, 1) := by decide +kernel
theorem d23_51 : decode jdk_52_method_4_code 51 = .ok (.i2b, 1) := by decide +kernel
theorem d23_52 : decode jdk_52_method_4_code 52 = .ok (.bastore, 1) := by decide +kernel
theorem d23_53 : decode jdk_52_method_4_code 53 = .ok (.return_, 1) := by decide +kernel
def rr_putW : Room := { frames := 0, cells := 0, slots := 0, locals := 0 }
set_option maxRecDepth 65536 in
set_option maxHeartbeats 40000000 in
theorem rm_putW (l : Launch) (Z : State) (a0 : Array Value) (hw : ∀ d ∈ tables_1, d.before a0 Z = true) (ws : List Jvm.Cond) (t : Addr) (k : ClassId) (xs : List Int32) (z i : Nat) (ch : Int32) (h0 : Heap) (n0 : Nat) (Z0 : n0 ≤ h0.size) (O0 : Old Z n0 h0) (V1 : Arv Z h0 t k .byte (Int32.ofNat z) (xs.map Value.int) (.int (0 : Int32))) (gt : n0 ≤ t) (hx0 : xs.length = z) (hz0 : z < 2 ^ 31) (hi : 2 * i + 1 < z) (UA : Sta Z Z.heap "java/lang/StringUTF16" "$assertionsDisabled" "Z" (.int (1 : Int32))) (UH : Sta Z Z.heap "java/lang/StringUTF16" "HI_BYTE_SHIFT" "I" (.int (0 : Int32))) (UL : Sta Z Z.heap "java/lang/StringUTF16" "LO_BYTE_SHIFT" "I" (.int (8 : Int32))) :
    Con l Z (⟨"java/lang/StringUTF16", "putChar", "([BII)V"⟩ : MethodName) jdk_52_method_4_code 3 none ws rr_putW #[(.ref t), (.int (Int32.ofNat i)), (.int ch)] h0 (fun v h L => v = none ∧ Fr n0 L ∧ Keep h0 h [t] ∧ Arv Z h t k .byte (Int32.ofNat z) (((xs.set (2 * i) (ch.toInt8.toInt32)).set (2 * i + 1) ((ch >>> ((8 : Int32) &&& 31)).toInt8.toInt32)).map Value.int) (.int (0 : Int32))) := by
  refine Con.enter (plainFor_of_name pn3) ?_
  intro p e s m below meth c s₁ X0 hx hZ hby hml hret hlk hown hnm e0
  have N0 := Fr.nil n0
  refine Go.cast (g' := (mkF m 0 #[.val (.ref t), .val (.int (Int32.ofNat i)), .val (.int ch)] [])) (by first | rfl | (simp [entryFrame, mkF, argsToLocals, Value.category]; done)) ?_
  obtain ⟨T1, X1, e1, st1⟩ := getS2 X0 hx hZ hown (host := "") (Or.inl (w125 hw)) Via.refl e0 (UA.ext O0.2) (g := (mkF m 0 #[.val (.ref t), .val (.int (Int32.ofNat i)), .val (.int ch)] [])) rfl (hb hby d23_0)
  refine Go.st (T' := T1) (g' := (mkF m 3 #[.val (.ref t), .val (.int (Int32.ofNat i)), .val (.int ch)] [(.int (1 : Int32))])) (fun _ zk => st1 _ zk) ?_
  refine Go.st (T' := T1) (g' := (mkF m 28 #[.val (.ref t), .val (.int (Int32.ofNat i)), .val (.int ch)] [])) (fun _ zk => XS.ifYes X1.here hx rfl (pc0 := 3) (pc' := 28) rfl (hb hby d23_3) rfl ((if0 _ _).trans (feq ((by decide) : ¬ ((1 : Int32) = (0 : Int32)))).2) (by decide) (by decide) zk) ?_
  refine Go.st (T' := T1) (g' := (mkF m 29 #[.val (.ref t), .val (.int (Int32.ofNat i)), .val (.int ch)] [(.int (Int32.ofNat i))])) (fun _ zk => XS.iloadN X1.here hx rfl (hb hby d23_28) rfl zk) ?_
  refine Go.st (T' := T1) (g' := (mkF m 30 #[.val (.ref t), .val (.int (Int32.ofNat i)), .val (.int ch)] [(.int (1 : Int32)), (.int (Int32.ofNat i))])) (fun _ zk => XS.iconst X1.here hx rfl (hb hby d23_29) zk) ?_
  refine Go.st (T' := T1) (g' := (mkF m 31 #[.val (.ref t), .val (.int (Int32.ofNat i)), .val (.int ch)] [(.int ((Int32.ofNat i) <<< ((1 : Int32) &&& 31)))])) (fun _ zk => XS.ishl X1.here hx rfl (hb hby d23_30) rfl zk) ?_
  rw [own_shl1 (by omega)]
  refine Go.st (T' := T1) (g' := (mkF m 32 #[.val (.ref t), .val (.int (Int32.ofNat (2 * i))), .val (.int ch)] [])) (fun _ zk => XS.istoreN X1.here hx rfl (hb hby d23_31) rfl (l' := #[.val (.ref t), .val (.int (Int32.ofNat (2 * i))), .val (.int ch)]) rfl zk) ?_
  refine Go.st (T' := T1) (g' := (mkF m 33 #[.val (.ref t), .val (.int (Int32.ofNat (2 * i))), .val (.int ch)] [(.ref t)])) (fun _ zk => XS.aloadN X1.here hx rfl (hb hby d23_32) rfl rfl zk) ?_
  refine Go.st (T' := T1) (g' := (mkF m 34 #[.val (.ref t), .val (.int (Int32.ofNat (2 * i))), .val (.int ch)] [(.int (Int32.ofNat (2 * i))), (.ref t)])) (fun _ zk => XS.iloadN X1.here hx rfl (hb hby d23_33) rfl zk) ?_
  refine Go.st (T' := T1) (g' := (mkF m 37 #[.val (.ref t), .val (.int ((Int32.ofNat (2 * i)) + (1 : Int32))), .val (.int ch)] [(.int (Int32.ofNat (2 * i))), (.ref t)])) (fun _ zk => XS.iinc X1.here hx rfl (hb hby d23_34) rfl (l' := #[.val (.ref t), .val (.int ((Int32.ofNat (2 * i)) + (1 : Int32))), .val (.int ch)]) rfl zk) ?_
  rw [own_one]
  refine Go.st (T' := T1) (g' := (mkF m 38 #[.val (.ref t), .val (.int (Int32.ofNat (2 * i + 1))), .val (.int ch)] [(.int ch), (.int (Int32.ofNat (2 * i))), (.ref t)])) (fun _ zk => XS.iloadN X1.here hx rfl (hb hby d23_37) rfl zk) ?_
  obtain ⟨T2, X2, e2, st2⟩ := getS2 X1 hx hZ hown (host := "") (Or.inl (w126 hw)) Via.refl e1 (UH.ext O0.2) (g := (mkF m 38 #[.val (.ref t), .val (.int (Int32.ofNat (2 * i + 1))), .val (.int ch)] [(.int ch), (.int (Int32.ofNat (2 * i))), (.ref t)])) rfl (hb hby d23_38)
  refine Go.st (T' := T2) (g' := (mkF m 41 #[.val (.ref t), .val (.int (Int32.ofNat (2 * i + 1))), .val (.int ch)] [(.int (0 : Int32)), (.int ch), (.int (Int32.ofNat (2 * i))), (.ref t)])) (fun _ zk => st2 _ zk) ?_
  refine Go.st (T' := T2) (g' := (mkF m 42 #[.val (.ref t), .val (.int (Int32.ofNat (2 * i + 1))), .val (.int ch)] [(.int (ch >>> ((0 : Int32) &&& 31))), (.int (Int32.ofNat (2 * i))), (.ref t)])) (fun _ zk => XS.ishr X2.here hx rfl (hb hby d23_41) rfl zk) ?_
  rw [own_shr0]
  refine Go.st (T' := T2) (g' := (mkF m 43 #[.val (.ref t), .val (.int (Int32.ofNat (2 * i + 1))), .val (.int ch)] [(.int (ch.toInt8.toInt32)), (.int (Int32.ofNat (2 * i))), (.ref t)])) (fun _ zk => XS.i2b X2.here hx rfl (hb hby d23_42) rfl zk) ?_
  obtain ⟨T3, h3, X3, e3, W3, V3, st3⟩ := stBV X2 hx hZ e2 V1 (j := (Int32.ofNat (2 * i))) (i := (2 * i)) ⟨own_ofn0 (by omega), own_oflt (by omega) (by omega)⟩ (own_clamp (by omega)) (by simp only [List.length_map, List.length_set]; omega) (g := (mkF m 43 #[.val (.ref t), .val (.int (Int32.ofNat (2 * i + 1))), .val (.int ch)] [(.int (ch.toInt8.toInt32)), (.int (Int32.ofNat (2 * i))), (.ref t)])) rfl rfl (hb hby d23_43)
  rw [nar_b, ← List.map_set] at V3
  have N3 := Fr.snoc X3 N0 gt
  refine Go.st (T' := T3) (g' := (mkF m 44 #[.val (.ref t), .val (.int (Int32.ofNat (2 * i + 1))), .val (.int ch)] [])) (fun _ zk => st3 _ zk) ?_
  refine Go.st (T' := T3) (g' := (mkF m 45 #[.val (.ref t), .val (.int (Int32.ofNat (2 * i + 1))), .val (.int ch)] [(.ref t)])) (fun _ zk => XS.aloadN X3.here hx rfl (hb hby d23_44) rfl rfl zk) ?_
  refine Go.st (T' := T3) (g' := (mkF m 46 #[.val (.ref t), .val (.int (Int32.ofNat (2 * i + 1))), .val (.int ch)] [(.int (Int32.ofNat (2 * i + 1))), (.ref t)])) (fun _ zk => XS.iloadN X3.here hx rfl (hb hby d23_45) rfl zk) ?_
  refine Go.st (T' := T3) (g' := (mkF m 47 #[.val (.ref t), .val (.int (Int32.ofNat (2 * i + 1))), .val (.int ch)] [(.int ch), (.int (Int32.ofNat (2 * i + 1))), (.ref t)])) (fun _ zk => XS.iloadN X3.here hx rfl (hb hby d23_46) rfl zk) ?_
  have f5 := (O0.wr W3 gt)
  obtain ⟨T4, X4, e4, st4⟩ := getS2 X3 hx hZ hown (host := "") (Or.inl (w127 hw)) Via.refl e3 (UL.ext f5.2) (g := (mkF m 47 #[.val (.ref t), .val (.int (Int32.ofNat (2 * i + 1))), .val (.int ch)] [(.int ch), (.int (Int32.ofNat (2 * i + 1))), (.ref t)])) rfl (hb hby d23_47)
  refine Go.st (T' := T4) (g' := (mkF m 50 #[.val (.ref t), .val (.int (Int32.ofNat (2 * i + 1))), .val (.int ch)] [(.int (8 : Int32)), (.int ch), (.int (Int32.ofNat (2 * i + 1))), (.ref t)])) (fun _ zk => st4 _ zk) ?_
  refine Go.st (T' := T4) (g' := (mkF m 51 #[.val (.ref t), .val (.int (Int32.ofNat (2 * i + 1))), .val (.int ch)] [(.int (ch >>> ((8 : Int32) &&& 31))), (.int (Int32.ofNat (2 * i + 1))), (.ref t)])) (fun _ zk => XS.ishr X4.here hx rfl (hb hby d23_50) rfl zk) ?_
  refine Go.st (T' := T4) (g' := (mkF m 52 #[.val (.ref t), .val (.int (Int32.ofNat (2 * i + 1))), .val (.int ch)] [(.int ((ch >>> ((8 : Int32) &&& 31)).toInt8.toInt32)), (.int (Int32.ofNat (2 * i + 1))), (.ref t)])) (fun _ zk => XS.i2b X4.here hx rfl (hb hby d23_51) rfl zk) ?_
  obtain ⟨T6, h6, X6, e6, W6, V6, st6⟩ := stBV X4 hx hZ e4 V3 (j := (Int32.ofNat (2 * i + 1))) (i := (2 * i + 1)) ⟨own_ofn0 (by omega), own_oflt (by omega) (by omega)⟩ (own_clamp (by omega)) (by simp only [List.length_map, List.length_set]; omega) (g := (mkF m 52 #[.val (.ref t), .val (.int (Int32.ofNat (2 * i + 1))), .val (.int ch)] [(.int ((ch >>> ((8 : Int32) &&& 31)).toInt8.toInt32)), (.int (Int32.ofNat (2 * i + 1))), (.ref t)])) rfl rfl (hb hby d23_52)
  rw [nar_b, ← List.map_set] at V6
  have N6 := Fr.snoc X6 N3 gt
  refine Go.st (T' := T6) (g' := (mkF m 53 #[.val (.ref t), .val (.int (Int32.ofNat (2 * i + 1))), .val (.int ch)] [])) (fun _ zk => st6 _ zk) ?_
  refine Go.retV X6 hx hlk hret (hb hby d23_53) (by decide) (by decide) e6 ?_
  exact ⟨rfl, N6, (((Keep.refl h0 [t]).wr W3 (Or.inl (List.mem_of_getElem? (i := 0) rfl))).wr W6 (Or.inl (List.mem_of_getElem? (i := 0) rfl))), V6⟩
theorem d20_0 : decode jdk_52_method_14_code 0 = .ok (.iload_n 2, 1) := by decide +kernel
theorem w117 {a0 : Array Value} {Z : State} (hw : ∀ d ∈ tables_1, d.before a0 Z = true) : ((Jvm.Cond.code ({ cls := "java/lang/StringUTF16", name := "newBytesFor", desc := "(I)[B" } : Jvm.MethodName) jdk_52_method_2_code (1 : Nat) (Option.some (Jvm.ClassFile.FieldType.array Jvm.ClassFile.FieldType.byte)))).before a0 Z = true := hw _ (List.mem_of_getElem? (i := 117) rfl)
theorem pd5 : parseMethodDescriptor "(I)[B" = some ⟨[.int], some (.array .byte)⟩ := by decide +kernel
theorem d20_1 : decode jdk_52_method_14_code 1 = .ok (.invokestatic 107, 3) := by decide +kernel
theorem w115 {a0 : Array Value} {Z : State} (hw : ∀ d ∈ tables_1, d.before a0 Z = true) : ((Jvm.Cond.methodLink "java/lang/StringUTF16" (107 : Nat) ({ cls := "java/lang/StringUTF16", name := "newBytesFor", desc := "(I)[B" } : Jvm.MethodName))).before a0 Z = true := hw _ (List.mem_of_getElem? (i := 115) rfl)
theorem w116 {a0 : Array Value} {Z : State} (hw : ∀ d ∈ tables_1, d.before a0 Z = true) : ((Jvm.Cond.static ({ cls := "java/lang/StringUTF16", name := "newBytesFor", desc := "(I)[B" } : Jvm.MethodName))).before a0 Z = true := hw _ (List.mem_of_getElem? (i := 116) rfl)
theorem d20_4 : decode jdk_52_method_14_code 4 = .ok (.astore_n 3, 1) := by decide +kernel
theorem d20_5 : decode jdk_52_method_14_code 5 = .ok (.iconst 0, 1) := by decide +kernel
theorem d20_6 : decode jdk_52_method_14_code 6 = .ok (.istore 4, 2) := by decide +kernel
theorem d20_8 : decode jdk_52_method_14_code 8 = .ok (.iload 4, 2) := by decide +kernel
theorem d20_10 : decode jdk_52_method_14_code 10 = .ok (.iload_n 2, 1) := by decide +kernel
theorem d20_11 : decode jdk_52_method_14_code 11 = .ok (.if_icmp .ge 21, 3) := by decide +kernel
theorem d20_32 : decode jdk_52_method_14_code 32 = .ok (.aload_n 3, 1) := by decide +kernel
theorem d20_33 : decode jdk_52_method_14_code 33 = .ok (.areturn, 1) := by decide +kernel
theorem d20_14 : decode jdk_52_method_14_code 14 = .ok (.aload_n 3, 1) := by decide +kernel
theorem d20_15 : decode jdk_52_method_14_code 15 = .ok (.iload 4, 2) := by decide +kernel
theorem d20_17 : decode jdk_52_method_14_code 17 = .ok (.aload_n 0, 1) := by decide +kernel
theorem d20_18 : decode jdk_52_method_14_code 18 = .ok (.iload_n 1, 1) := by decide +kernel
theorem d20_19 : decode jdk_52_method_14_code 19 = .ok (.caload, 1) := by decide +kernel
theorem w124 {a0 : Array Value} {Z : State} (hw : ∀ d ∈ tables_1, d.before a0 Z = true) : ((Jvm.Cond.code ({ cls := "java/lang/StringUTF16", name := "putChar", desc := "([BII)V" } : Jvm.MethodName) jdk_52_method_4_code (3 : Nat) (Option.none : Option Jvm.ClassFile.FieldType))).before a0 Z = true := hw _ (List.mem_of_getElem? (i := 124) rfl)
theorem pd6 : parseMethodDescriptor "([BII)V" = some ⟨[(.array .byte), .int, .int], none⟩ := by decide +kernel
theorem d20_20 : decode jdk_52_method_14_code 20 = .ok (.invokestatic 111, 3) := by decide +kernel
theorem w122 {a0 : Array Value} {Z : State} (hw : ∀ d ∈ tables_1, d.before a0 Z = true) : ((Jvm.Cond.methodLink "java/lang/StringUTF16" (111 : Nat) ({ cls := "java/lang/StringUTF16", name := "putChar", desc := "([BII)V" } : Jvm.MethodName))).before a0 Z = true := hw _ (List.mem_of_getElem? (i := 122) rfl)
theorem w123 {a0 : Array Value} {Z : State} (hw : ∀ d ∈ tables_1, d.before a0 Z = true) : ((Jvm.Cond.static ({ cls := "java/lang/StringUTF16", name := "putChar", desc := "([BII)V" } : Jvm.MethodName))).before a0 Z = true := hw _ (List.mem_of_getElem? (i := 123) rfl)
theorem d20_23 : decode jdk_52_method_14_code 23 = .ok (.iinc 1 1, 3) := by decide +kernel
theorem d20_26 : decode jdk_52_method_14_code 26 = .ok (.iinc 4 1, 3) := by decide +kernel
theorem d20_29 : decode jdk_52_method_14_code 29 = .ok (.goto (-21), 3) := by decide +kernel
def rr_tobW : Room := { frames := 2, cells := 1, slots := 20, locals := 24 }
set_option maxRecDepth 65536 in
set_option maxHeartbeats 40000000 in
theorem rm_tobW (l : Launch) (Z : State) (a0 : Array Value) (hw : ∀ d ∈ tables_1, d.before a0 Z = true) (ws : List Jvm.Cond) (b : Addr) (kC : ClassId) (cs : List Int32) (n : Nat) (h0 : Heap) (n0 : Nat) (Z0 : n0 ≤ h0.size) (O0 : Old Z n0 h0) (VC : Arv Z h0 b kC .char (Int32.ofNat n) (cs.map Value.int) (.int (0 : Int32))) (hcap : n ≤ 10) (hcs : cs.length = n) (hn : n < 2 ^ 30) (UA : Sta Z Z.heap "java/lang/StringUTF16" "$assertionsDisabled" "Z" (.int (1 : Int32))) (UH : Sta Z Z.heap "java/lang/StringUTF16" "HI_BYTE_SHIFT" "I" (.int (0 : Int32))) (UL : Sta Z Z.heap "java/lang/StringUTF16" "LO_BYTE_SHIFT" "I" (.int (8 : Int32))) :
    Con l Z (⟨"java/lang/StringUTF16", "toBytes", "([CII)[B"⟩ : MethodName) jdk_52_method_14_code 5 (some (.array .byte)) ws rr_tobW #[(.ref b), (.int (0 : Int32)), (.int (Int32.ofNat n))] h0 (fun v h L => ∃ (t : Addr) (k : ClassId) (xs : List Int32), v = some (.ref t) ∧ Fr n0 L ∧ Ext h0 h ∧ h0.size ≤ t ∧ xs.length = 2 * n ∧ Arv Z h t k .byte (Int32.ofNat (2 * n)) (xs.map Value.int) (.int (0 : Int32)) ∧ ∀ i, i < n → xs.getD (2 * i) 0 = ((cs.getD i 0).toInt8.toInt32) ∧ xs.getD (2 * i + 1) 0 = (((cs.getD i 0) >>> ((8 : Int32) &&& 31)).toInt8.toInt32)) := by
  refine Con.enter (plainFor_of_name pn3) ?_
  intro p e s m below meth c s₁ X0 hx hZ hby hml hret hlk hown hnm e0
  have N0 := Fr.nil n0
  refine Go.cast (g' := (mkF m 0 #[.val (.ref b), .val (.int (0 : Int32)), .val (.int (Int32.ofNat n)), .unset, .unset] [])) (by first | rfl | (simp [entryFrame, mkF, argsToLocals, Value.category]; done)) ?_
  refine Go.st (T' := s₁) (g' := (mkF m 1 #[.val (.ref b), .val (.int (0 : Int32)), .val (.int (Int32.ofNat n)), .unset, .unset] [(.int (Int32.ofNat n))])) (fun _ zk => XS.iloadN X0.here hx rfl (hb hby d20_0) rfl zk) ?_
  refine Go.callSt (y := (⟨"java/lang/StringUTF16", "newBytesFor", "(I)[B"⟩ : MethodName)) X0 hx hZ hown e0 (w115 hw) (w116 hw) (w82 hw) (w117 hw) (by decide) (argsL := [(.int (Int32.ofNat n))]) (rest := []) (W := 0) (rm_nbfW l Z a0 hw [] n h0 n0 Z0 hcap hn) rfl (lenOf pd5 rfl) rfl (by rw [hml]; rfl) rfl (by show 2 * 0 + _ ≤ _; exact Nat.le_of_eq rfl) (by decide) (by decide) (by decide) (by decide) (hb hby d20_1) ?_
  intro v1 T1 h1 L1 X1 e1 q1
  obtain ⟨t, k, hv1, Nf1, E1, ge, V1⟩ := q1
  subst hv1
  have N1 := Fr.app N0 Nf1
  show Go p.tables e below _ T1 (mkF m 4 #[.val (.ref b), .val (.int (0 : Int32)), .val (.int (Int32.ofNat n)), .unset, .unset] [(.ref t)])
  refine Go.st (T' := T1) (g' := (mkF m 5 #[.val (.ref b), .val (.int (0 : Int32)), .val (.int (Int32.ofNat n)), .val (.ref t), .unset] [])) (fun _ zk => XS.astoreN X1.here hx rfl (hb hby d20_4) rfl rfl (l' := #[.val (.ref b), .val (.int (0 : Int32)), .val (.int (Int32.ofNat n)), .val (.ref t), .unset]) rfl zk) ?_
  refine Go.st (T' := T1) (g' := (mkF m 6 #[.val (.ref b), .val (.int (0 : Int32)), .val (.int (Int32.ofNat n)), .val (.ref t), .unset] [(.int (0 : Int32))])) (fun _ zk => XS.iconst X1.here hx rfl (hb hby d20_5) zk) ?_
  refine Go.st (T' := T1) (g' := (mkF m 8 #[.val (.ref b), .val (.int (0 : Int32)), .val (.int (Int32.ofNat n)), .val (.ref t), .val (.int (0 : Int32))] [])) (fun _ zk => XS.istore X1.here hx rfl (hb hby d20_6) rfl (l' := #[.val (.ref b), .val (.int (0 : Int32)), .val (.int (Int32.ofNat n)), .val (.ref t), .val (.int (0 : Int32))]) rfl zk) ?_
  have tg : h0.size ≤ t := (Nat.le_trans (Nat.le_refl _) ge)
  have loop : ∀ (q i : Nat), i + q = n → ∀ (T : State) (lc : List Loc) (hL : Heap) (xs : List Int32), Stand p l e rr_tobW s m #[(.ref b), (.int 0), (.int (Int32.ofNat n))] below meth c T lc (0 + rr_nbfW.cells) (0 + rr_nbfW.slots) → T.heap = hL → Fr n0 lc → Ext h0 hL → xs.length = 2 * n → Arv Z hL t k .byte (Int32.ofNat (2 * n)) (xs.map Value.int) (.int (0 : Int32)) → (∀ j, j < i → xs.getD (2 * j) 0 = ((cs.getD j 0).toInt8.toInt32) ∧ xs.getD (2 * j + 1) 0 = (((cs.getD j 0) >>> ((8 : Int32) &&& 31)).toInt8.toInt32)) → Go p.tables e below (FinP s (fun v h L => ∃ (t : Addr) (k : ClassId) (xs : List Int32), v = some (.ref t) ∧ Fr n0 L ∧ Ext h0 h ∧ h0.size ≤ t ∧ xs.length = 2 * n ∧ Arv Z h t k .byte (Int32.ofNat (2 * n)) (xs.map Value.int) (.int (0 : Int32)) ∧ ∀ i, i < n → xs.getD (2 * i) 0 = ((cs.getD i 0).toInt8.toInt32) ∧ xs.getD (2 * i + 1) 0 = (((cs.getD i 0) >>> ((8 : Int32) &&& 31)).toInt8.toInt32)) rr_tobW.cells rr_tobW.slots) T (mkF m 8 #[.val (.ref b), .val (.int (Int32.ofNat i)), .val (.int (Int32.ofNat n)), .val (.ref t), .val (.int (Int32.ofNat i))] []) := by
    intro q
    induction q with
    | zero =>
      intro i hi T lc hL xs XL eL NL EL hl VL inv
      refine Go.st (T' := T) (g' := (mkF m 10 #[.val (.ref b), .val (.int (Int32.ofNat i)), .val (.int (Int32.ofNat n)), .val (.ref t), .val (.int (Int32.ofNat i))] [(.int (Int32.ofNat i))])) (fun _ zk => XS.iload XL.here hx rfl (hb hby d20_8) rfl zk) ?_
      refine Go.st (T' := T) (g' := (mkF m 11 #[.val (.ref b), .val (.int (Int32.ofNat i)), .val (.int (Int32.ofNat n)), .val (.ref t), .val (.int (Int32.ofNat i))] [(.int (Int32.ofNat n)), (.int (Int32.ofNat i))])) (fun _ zk => XS.iloadN XL.here hx rfl (hb hby d20_10) rfl zk) ?_
      refine Go.st (T' := T) (g' := (mkF m 32 #[.val (.ref b), .val (.int (Int32.ofNat i)), .val (.int (Int32.ofNat n)), .val (.ref t), .val (.int (Int32.ofNat i))] [])) (fun _ zk => XS.icmpYes XL.here hx rfl (pc0 := 11) (pc' := 32) rfl (hb hby d20_11) rfl (flt (own_ofnl (by omega) (by omega) (by omega) : ¬ ((Int32.ofNat i) < (Int32.ofNat n)))).2.1 (by decide) (by decide) zk) ?_
      refine Go.st (T' := T) (g' := (mkF m 33 #[.val (.ref b), .val (.int (Int32.ofNat i)), .val (.int (Int32.ofNat n)), .val (.ref t), .val (.int (Int32.ofNat i))] [(.ref t)])) (fun _ zk => XS.aloadN XL.here hx rfl (hb hby d20_32) rfl rfl zk) ?_
      have xt2 : Ext h0 hL := EL
      refine Go.retA XL hx hlk hret rfl rfl (hb hby d20_33) (by decide) (by decide) eL ?_
      exact ⟨t, k, xs, rfl, NL, xt2, tg, hl, VL, fun j q => inv j (by omega)⟩
    | succ q ih =>
      intro i hi T lc hL xs XL eL NL EL hl VL inv
      refine Go.st (T' := T) (g' := (mkF m 10 #[.val (.ref b), .val (.int (Int32.ofNat i)), .val (.int (Int32.ofNat n)), .val (.ref t), .val (.int (Int32.ofNat i))] [(.int (Int32.ofNat i))])) (fun _ zk => XS.iload XL.here hx rfl (hb hby d20_8) rfl zk) ?_
      refine Go.st (T' := T) (g' := (mkF m 11 #[.val (.ref b), .val (.int (Int32.ofNat i)), .val (.int (Int32.ofNat n)), .val (.ref t), .val (.int (Int32.ofNat i))] [(.int (Int32.ofNat n)), (.int (Int32.ofNat i))])) (fun _ zk => XS.iloadN XL.here hx rfl (hb hby d20_10) rfl zk) ?_
      refine Go.st (T' := T) (g' := (mkF m 14 #[.val (.ref b), .val (.int (Int32.ofNat i)), .val (.int (Int32.ofNat n)), .val (.ref t), .val (.int (Int32.ofNat i))] [])) (fun _ zk => XS.icmpNo XL.here hx rfl (hb hby d20_11) rfl (tlt (own_oflt (by omega) (by omega) : (Int32.ofNat i) < (Int32.ofNat n))).2.1 zk) ?_
      refine Go.st (T' := T) (g' := (mkF m 15 #[.val (.ref b), .val (.int (Int32.ofNat i)), .val (.int (Int32.ofNat n)), .val (.ref t), .val (.int (Int32.ofNat i))] [(.ref t)])) (fun _ zk => XS.aloadN XL.here hx rfl (hb hby d20_14) rfl rfl zk) ?_
      refine Go.st (T' := T) (g' := (mkF m 17 #[.val (.ref b), .val (.int (Int32.ofNat i)), .val (.int (Int32.ofNat n)), .val (.ref t), .val (.int (Int32.ofNat i))] [(.int (Int32.ofNat i)), (.ref t)])) (fun _ zk => XS.iload XL.here hx rfl (hb hby d20_15) rfl zk) ?_
      refine Go.st (T' := T) (g' := (mkF m 18 #[.val (.ref b), .val (.int (Int32.ofNat i)), .val (.int (Int32.ofNat n)), .val (.ref t), .val (.int (Int32.ofNat i))] [(.ref b), (.int (Int32.ofNat i)), (.ref t)])) (fun _ zk => XS.aloadN XL.here hx rfl (hb hby d20_17) rfl rfl zk) ?_
      refine Go.st (T' := T) (g' := (mkF m 19 #[.val (.ref b), .val (.int (Int32.ofNat i)), .val (.int (Int32.ofNat n)), .val (.ref t), .val (.int (Int32.ofNat i))] [(.int (Int32.ofNat i)), (.ref b), (.int (Int32.ofNat i)), (.ref t)])) (fun _ zk => XS.iloadN XL.here hx rfl (hb hby d20_18) rfl zk) ?_
      have xt3 : Ext h0 hL := EL
      have f4 := VC.ext xt3
      refine Go.st (T' := T) (g' := (mkF m 20 #[.val (.ref b), .val (.int (Int32.ofNat i)), .val (.int (Int32.ofNat n)), .val (.ref t), .val (.int (Int32.ofNat i))] [(.int (cs.getD i 0)), (.int (Int32.ofNat i)), (.ref t)])) (fun _ zk => ldCV XL hx hZ eL f4 (j := (Int32.ofNat i)) ⟨own_ofn0 (by omega), own_oflt (by omega) (by omega)⟩ (v := (.int (cs.getD i 0))) (by rw [own_clamp (by omega)]; exact own_getD _ _) (g := (mkF m 19 #[.val (.ref b), .val (.int (Int32.ofNat i)), .val (.int (Int32.ofNat n)), .val (.ref t), .val (.int (Int32.ofNat i))] [(.int (Int32.ofNat i)), (.ref b), (.int (Int32.ofNat i)), (.ref t)])) rfl (rest := [(.int (Int32.ofNat i)), (.ref t)]) rfl (hb hby d20_19) zk) ?_
      have f6 := O0.ext xt3
      refine Go.callSt (y := (⟨"java/lang/StringUTF16", "putChar", "([BII)V"⟩ : MethodName)) XL hx hZ hown eL (w122 hw) (w123 hw) (w82 hw) (w124 hw) (by decide) (argsL := [(.ref t), (.int (Int32.ofNat i)), (.int (cs.getD i 0))]) (rest := []) (W := 0) (rm_putW l Z a0 hw [] t k xs (2 * n) i (cs.getD i 0) hL n0 (Nat.le_trans Z0 EL.1) f6 VL (Nat.le_trans Z0 (Nat.le_trans (Nat.le_refl _) tg)) hl (by omega) (by omega) UA UH UL) rfl (lenOf pd6 rfl) rfl (by rw [hml]; rfl) rfl (by show 2 * 0 + _ ≤ _; exact Nat.le_of_eq rfl) (by decide) (by decide) (by decide) (by decide) (hb hby d20_20) ?_
      intro v5 T5 h5 L5 X5 e5 q5
      obtain ⟨hv5, Nf5, K5, V5⟩ := q5
      subst hv5
      have N5 := Fr.app NL Nf5
      show Go p.tables e below _ T5 (mkF m 23 #[.val (.ref b), .val (.int (Int32.ofNat i)), .val (.int (Int32.ofNat n)), .val (.ref t), .val (.int (Int32.ofNat i))] [])
      refine Go.st (T' := T5) (g' := (mkF m 26 #[.val (.ref b), .val (.int ((Int32.ofNat i) + (1 : Int32))), .val (.int (Int32.ofNat n)), .val (.ref t), .val (.int (Int32.ofNat i))] [])) (fun _ zk => XS.iinc X5.here hx rfl (hb hby d20_23) rfl (l' := #[.val (.ref b), .val (.int ((Int32.ofNat i) + (1 : Int32))), .val (.int (Int32.ofNat n)), .val (.ref t), .val (.int (Int32.ofNat i))]) rfl zk) ?_
      refine Go.st (T' := T5) (g' := (mkF m 29 #[.val (.ref b), .val (.int ((Int32.ofNat i) + (1 : Int32))), .val (.int (Int32.ofNat n)), .val (.ref t), .val (.int ((Int32.ofNat i) + (1 : Int32)))] [])) (fun _ zk => XS.iinc X5.here hx rfl (hb hby d20_26) rfl (l' := #[.val (.ref b), .val (.int ((Int32.ofNat i) + (1 : Int32))), .val (.int (Int32.ofNat n)), .val (.ref t), .val (.int ((Int32.ofNat i) + (1 : Int32)))]) rfl zk) ?_
      refine Go.st (T' := T5) (g' := (mkF m 8 #[.val (.ref b), .val (.int ((Int32.ofNat i) + (1 : Int32))), .val (.int (Int32.ofNat n)), .val (.ref t), .val (.int ((Int32.ofNat i) + (1 : Int32)))] [])) (fun _ zk => XS.goto X5.here hx rfl (pc0 := 29) (pc' := 8) rfl (hb hby d20_29) (by decide) (by decide) zk) ?_
      have xt7 : Ext h0 h5 := (xt3.thenK K5 (allS (P := fun x => h0.size ≤ x) tg all0))
      rw [own_one]
      exact ih (i + 1) (by omega) _ _ _ _ X5 e5 N5 xt7 (by rw [List.length_set, List.length_set]; exact hl) V5 (own_inv2 (P := fun j x y => x = ((cs.getD j 0).toInt8.toInt32) ∧ y = (((cs.getD j 0) >>> ((8 : Int32) &&& 31)).toInt8.toInt32)) inv (by omega) ⟨rfl, rfl⟩)
  have xt8 : Ext h0 h1 := E1
  exact loop n 0 (by omega) _ _ _ _ X1 e1 N1 xt8 (by rw [List.length_replicate]) V1 (fun j q => absurd q (Nat.not_lt_zero _))
theorem d24_0 : decode jdk_52_method_5_code 0 = .ok (.getstatic 44, 3) := by decide +kernel
theorem d24_3 : decode jdk_52_method_5_code 3 = .ok (.ifCond .ne 25, 3) := by decide +kernel
theorem d24_28 : decode jdk_52_method_5_code 28 = .ok (.iload_n 1, 1) := by decide +kernel
theorem d24_29 : decode jdk_52_method_5_code 29 = .ok (.iconst 1, 1) := by decide +kernel
theorem d24_30 : decode jdk_52_method_5_code 30 = .ok (.ishl, 1) := by decide +kernel
theorem d24_31 : decode jdk_52_method_5_code 31 = .ok (.istore_n 1, 1) := by decide +kernel
theorem d24_32 : decode jdk_52_method_5_code 32 = .ok (.aload_n 0, 1) := by decide +kernel
theorem d24_33 : decode jdk_52_method_5_code 33 = .ok (.iload_n 1, 1) := by decide +kernel
theorem d24_34 : decode jdk_52_method_5_code 34 = .ok (.iinc 1 1, 3) := by decide +kernel
theorem d24_37 : decode jdk_52_method_5_code 37 = .ok (.baload, 1) := by decide +kernel
theorem d24_38 : decode jdk_52_method_5_code 38 = .ok (.sipush 255, 3) := by decide +kernel
theorem d24_41 : decode jdk_52_method_5_code 41 = .ok (.iand, 1) := by decide +kernel
theorem d24_42 : decode jdk_52_method_5_code 42 = .ok (.getstatic 59, 3) := by decide +kernel
theorem d24_45 : decode jdk_52_method_5_code 45 = .ok (.ishl, 1) := by decide +kernel
theorem d24_46 : decode jdk_52_method_5_code 46 = .ok (.aload_n 0, 1) := by decide +kernel
theorem d24_47 : decode jdk_52_method_5_code 47 = .ok (.iload_n 1, 1) := by decide +kernel
theorem d24_48 : decode jdk_52_method_5_code 48 = .ok (.baload, 1) := by decide +kernel
theorem d24_49 : decode jdk_52_method_5_code 49 = .ok (.sipush 255, 3) := by decide +kernel
theorem d24_52 : decode jdk_52_method_5_code 52 = .ok (.iand, 1) := by decide +kernel
theorem d24_53 : decode jdk_52_method_5_code 53 = .ok (.getstatic 63, 3) := by decide +kernel
theorem d24_56 : decode jdk_52_method_5_code 56 = .ok (.ishl, 1) := by decide +kernel
theorem d24_57 : decode jdk_52_method_5_code 57 = .ok (.ior, 1) := by decide +kernel
theorem d24_58 : decode jdk_52_method_5_code 58 = .ok (.i2c, 1) := by decide +kernel
theorem d24_59 : decode jdk_52_method_5_code 59 = .ok (.ireturn, 1) := by decide +kernel
def rr_getW : Room := { frames := 0, cells := 0, slots := 0, locals := 0 }
set_option maxRecDepth 65536 in
set_option maxHeartbeats 40000000 in
theorem rm_getW (l : Launch) (Z : State) (a0 : Array Value) (hw : ∀ d ∈ tables_1, d.before a0 Z = true) (ws : List Jvm.Cond) (t : Addr) (k : ClassId) (xs : List Int32) (z i : Nat) (h0 : Heap) (n0 : Nat) (Z0 : n0 ≤ h0.size) (O0 : Old Z n0 h0) (V1 : Arv Z h0 t k .byte (Int32.ofNat z) (xs.map Value.int) (.int (0 : Int32))) (hx0 : xs.length = z) (hz0 : z < 2 ^ 31) (hi : 2 * i + 1 < z) (UA : Sta Z Z.heap "java/lang/StringUTF16" "$assertionsDisabled" "Z" (.int (1 : Int32))) (UH : Sta Z Z.heap "java/lang/StringUTF16" "HI_BYTE_SHIFT" "I" (.int (0 : Int32))) (UL : Sta Z Z.heap "java/lang/StringUTF16" "LO_BYTE_SHIFT" "I" (.int (8 : Int32))) :
    Con l Z (⟨"java/lang/StringUTF16", "getChar", "([BI)C"⟩ : MethodName) jdk_52_method_5_code 2 (some .char) ws rr_getW #[(.ref t), (.int (Int32.ofNat i))] h0 (fun v h L => v = some (.int (((((xs.getD (2 * i) 0) &&& (255 : Int32)) <<< ((0 : Int32) &&& 31)) ||| (((xs.getD (2 * i + 1) 0) &&& (255 : Int32)) <<< ((8 : Int32) &&& 31))).toUInt32.toUInt16.toUInt32.toInt32)) ∧ Fr n0 L ∧ h = h0) := by
  refine Con.enter (plainFor_of_name pn3) ?_
  intro p e s m below meth c s₁ X0 hx hZ hby hml hret hlk hown hnm e0
  have N0 := Fr.nil n0
  refine Go.cast (g' := (mkF m 0 #[.val (.ref t), .val (.int (Int32.ofNat i))] [])) (by first | rfl | (simp [entryFrame, mkF, argsToLocals, Value.category]; done)) ?_
  obtain ⟨T1, X1, e1, st1⟩ := getS2 X0 hx hZ hown (host := "") (Or.inl (w125 hw)) Via.refl e0 (UA.ext O0.2) (g := (mkF m 0 #[.val (.ref t), .val (.int (Int32.ofNat i))] [])) rfl (hb hby d24_0)
  refine Go.st (T' := T1) (g' := (mkF m 3 #[.val (.ref t), .val (.int (Int32.ofNat i))] [(.int (1 : Int32))])) (fun _ zk => st1 _ zk) ?_
  refine Go.st (T' := T1) (g' := (mkF m 28 #[.val (.ref t), .val (.int (Int32.ofNat i))] [])) (fun _ zk => XS.ifYes X1.here hx rfl (pc0 := 3) (pc' := 28) rfl (hb hby d24_3) rfl ((if0 _ _).trans (feq ((by decide) : ¬ ((1 : Int32) = (0 : Int32)))).2) (by decide) (by decide) zk) ?_
  refine Go.st (T' := T1) (g' := (mkF m 29 #[.val (.ref t), .val (.int (Int32.ofNat i))] [(.int (Int32.ofNat i))])) (fun _ zk => XS.iloadN X1.here hx rfl (hb hby d24_28) rfl zk) ?_
  refine Go.st (T' := T1) (g' := (mkF m 30 #[.val (.ref t), .val (.int (Int32.ofNat i))] [(.int (1 : Int32)), (.int (Int32.ofNat i))])) (fun _ zk => XS.iconst X1.here hx rfl (hb hby d24_29) zk) ?_
  refine Go.st (T' := T1) (g' := (mkF m 31 #[.val (.ref t), .val (.int (Int32.ofNat i))] [(.int ((Int32.ofNat i) <<< ((1 : Int32) &&& 31)))])) (fun _ zk => XS.ishl X1.here hx rfl (hb hby d24_30) rfl zk) ?_
  rw [own_shl1 (by omega)]
  refine Go.st (T' := T1) (g' := (mkF m 32 #[.val (.ref t), .val (.int (Int32.ofNat (2 * i)))] [])) (fun _ zk => XS.istoreN X1.here hx rfl (hb hby d24_31) rfl (l' := #[.val (.ref t), .val (.int (Int32.ofNat (2 * i)))]) rfl zk) ?_
  refine Go.st (T' := T1) (g' := (mkF m 33 #[.val (.ref t), .val (.int (Int32.ofNat (2 * i)))] [(.ref t)])) (fun _ zk => XS.aloadN X1.here hx rfl (hb hby d24_32) rfl rfl zk) ?_
  refine Go.st (T' := T1) (g' := (mkF m 34 #[.val (.ref t), .val (.int (Int32.ofNat (2 * i)))] [(.int (Int32.ofNat (2 * i))), (.ref t)])) (fun _ zk => XS.iloadN X1.here hx rfl (hb hby d24_33) rfl zk) ?_
  refine Go.st (T' := T1) (g' := (mkF m 37 #[.val (.ref t), .val (.int ((Int32.ofNat (2 * i)) + (1 : Int32)))] [(.int (Int32.ofNat (2 * i))), (.ref t)])) (fun _ zk => XS.iinc X1.here hx rfl (hb hby d24_34) rfl (l' := #[.val (.ref t), .val (.int ((Int32.ofNat (2 * i)) + (1 : Int32)))]) rfl zk) ?_
  rw [own_one]
  refine Go.st (T' := T1) (g' := (mkF m 38 #[.val (.ref t), .val (.int (Int32.ofNat (2 * i + 1)))] [(.int (xs.getD (2 * i) 0))])) (fun _ zk => ldBV X1 hx hZ e1 V1 (j := (Int32.ofNat (2 * i))) ⟨own_ofn0 (by omega), own_oflt (by omega) (by omega)⟩ (v := (.int (xs.getD (2 * i) 0))) (by rw [own_clamp (by omega)]; exact own_getD _ _) (g := (mkF m 37 #[.val (.ref t), .val (.int (Int32.ofNat (2 * i + 1)))] [(.int (Int32.ofNat (2 * i))), (.ref t)])) rfl (rest := []) rfl (hb hby d24_37) zk) ?_
  refine Go.st (T' := T1) (g' := (mkF m 41 #[.val (.ref t), .val (.int (Int32.ofNat (2 * i + 1)))] [(.int (255 : Int32)), (.int (xs.getD (2 * i) 0))])) (fun _ zk => XS.sipush X1.here hx rfl (hb hby d24_38) zk) ?_
  refine Go.st (T' := T1) (g' := (mkF m 42 #[.val (.ref t), .val (.int (Int32.ofNat (2 * i + 1)))] [(.int ((xs.getD (2 * i) 0) &&& (255 : Int32)))])) (fun _ zk => XS.iand X1.here hx rfl (hb hby d24_41) rfl zk) ?_
  obtain ⟨T2, X2, e2, st2⟩ := getS2 X1 hx hZ hown (host := "") (Or.inl (w126 hw)) Via.refl e1 (UH.ext O0.2) (g := (mkF m 42 #[.val (.ref t), .val (.int (Int32.ofNat (2 * i + 1)))] [(.int ((xs.getD (2 * i) 0) &&& (255 : Int32)))])) rfl (hb hby d24_42)
  refine Go.st (T' := T2) (g' := (mkF m 45 #[.val (.ref t), .val (.int (Int32.ofNat (2 * i + 1)))] [(.int (0 : Int32)), (.int ((xs.getD (2 * i) 0) &&& (255 : Int32)))])) (fun _ zk => st2 _ zk) ?_
  refine Go.st (T' := T2) (g' := (mkF m 46 #[.val (.ref t), .val (.int (Int32.ofNat (2 * i + 1)))] [(.int (((xs.getD (2 * i) 0) &&& (255 : Int32)) <<< ((0 : Int32) &&& 31)))])) (fun _ zk => XS.ishl X2.here hx rfl (hb hby d24_45) rfl zk) ?_
  refine Go.st (T' := T2) (g' := (mkF m 47 #[.val (.ref t), .val (.int (Int32.ofNat (2 * i + 1)))] [(.ref t), (.int (((xs.getD (2 * i) 0) &&& (255 : Int32)) <<< ((0 : Int32) &&& 31)))])) (fun _ zk => XS.aloadN X2.here hx rfl (hb hby d24_46) rfl rfl zk) ?_
  refine Go.st (T' := T2) (g' := (mkF m 48 #[.val (.ref t), .val (.int (Int32.ofNat (2 * i + 1)))] [(.int (Int32.ofNat (2 * i + 1))), (.ref t), (.int (((xs.getD (2 * i) 0) &&& (255 : Int32)) <<< ((0 : Int32) &&& 31)))])) (fun _ zk => XS.iloadN X2.here hx rfl (hb hby d24_47) rfl zk) ?_
  refine Go.st (T' := T2) (g' := (mkF m 49 #[.val (.ref t), .val (.int (Int32.ofNat (2 * i + 1)))] [(.int (xs.getD (2 * i + 1) 0)), (.int (((xs.getD (2 * i) 0) &&& (255 : Int32)) <<< ((0 : Int32) &&& 31)))])) (fun _ zk => ldBV X2 hx hZ e2 V1 (j := (Int32.ofNat (2 * i + 1))) ⟨own_ofn0 (by omega), own_oflt (by omega) (by omega)⟩ (v := (.int (xs.getD (2 * i + 1) 0))) (by rw [own_clamp (by omega)]; exact own_getD _ _) (g := (mkF m 48 #[.val (.ref t), .val (.int (Int32.ofNat (2 * i + 1)))] [(.int (Int32.ofNat (2 * i + 1))), (.ref t), (.int (((xs.getD (2 * i) 0) &&& (255 : Int32)) <<< ((0 : Int32) &&& 31)))])) rfl (rest := [(.int (((xs.getD (2 * i) 0) &&& (255 : Int32)) <<< ((0 : Int32) &&& 31)))]) rfl (hb hby d24_48) zk) ?_
  refine Go.st (T' := T2) (g' := (mkF m 52 #[.val (.ref t), .val (.int (Int32.ofNat (2 * i + 1)))] [(.int (255 : Int32)), (.int (xs.getD (2 * i + 1) 0)), (.int (((xs.getD (2 * i) 0) &&& (255 : Int32)) <<< ((0 : Int32) &&& 31)))])) (fun _ zk => XS.sipush X2.here hx rfl (hb hby d24_49) zk) ?_
  refine Go.st (T' := T2) (g' := (mkF m 53 #[.val (.ref t), .val (.int (Int32.ofNat (2 * i + 1)))] [(.int ((xs.getD (2 * i + 1) 0) &&& (255 : Int32))), (.int (((xs.getD (2 * i) 0) &&& (255 : Int32)) <<< ((0 : Int32) &&& 31)))])) (fun _ zk => XS.iand X2.here hx rfl (hb hby d24_52) rfl zk) ?_
  obtain ⟨T3, X3, e3, st3⟩ := getS2 X2 hx hZ hown (host := "") (Or.inl (w127 hw)) Via.refl e2 (UL.ext O0.2) (g := (mkF m 53 #[.val (.ref t), .val (.int (Int32.ofNat (2 * i + 1)))] [(.int ((xs.getD (2 * i + 1) 0) &&& (255 : Int32))), (.int (((xs.getD (2 * i) 0) &&& (255 : Int32)) <<< ((0 : Int32) &&& 31)))])) rfl (hb hby d24_53)
  refine Go.st (T' := T3) (g' := (mkF m 56 #[.val (.ref t), .val (.int (Int32.ofNat (2 * i + 1)))] [(.int (8 : Int32)), (.int ((xs.getD (2 * i + 1) 0) &&& (255 : Int32))), (.int (((xs.getD (2 * i) 0) &&& (255 : Int32)) <<< ((0 : Int32) &&& 31)))])) (fun _ zk => st3 _ zk) ?_
  refine Go.st (T' := T3) (g' := (mkF m 57 #[.val (.ref t), .val (.int (Int32.ofNat (2 * i + 1)))] [(.int (((xs.getD (2 * i + 1) 0) &&& (255 : Int32)) <<< ((8 : Int32) &&& 31))), (.int (((xs.getD (2 * i) 0) &&& (255 : Int32)) <<< ((0 : Int32) &&& 31)))])) (fun _ zk => XS.ishl X3.here hx rfl (hb hby d24_56) rfl zk) ?_
  refine Go.st (T' := T3) (g' := (mkF m 58 #[.val (.ref t), .val (.int (Int32.ofNat (2 * i + 1)))] [(.int ((((xs.getD (2 * i) 0) &&& (255 : Int32)) <<< ((0 : Int32) &&& 31)) ||| (((xs.getD (2 * i + 1) 0) &&& (255 : Int32)) <<< ((8 : Int32) &&& 31))))])) (fun _ zk => XS.ior X3.here hx rfl (hb hby d24_57) rfl zk) ?_
  refine Go.st (T' := T3) (g' := (mkF m 59 #[.val (.ref t), .val (.int (Int32.ofNat (2 * i + 1)))] [(.int (((((xs.getD (2 * i) 0) &&& (255 : Int32)) <<< ((0 : Int32) &&& 31)) ||| (((xs.getD (2 * i + 1) 0) &&& (255 : Int32)) <<< ((8 : Int32) &&& 31))).toUInt32.toUInt16.toUInt32.toInt32))])) (fun _ zk => XS.i2c X3.here hx rfl (hb hby d24_58) rfl zk) ?_
  refine Go.retN X3 hx hlk hret (congrArg Value.int nar_c) (by simp) (hb hby d24_59) (by decide) (by decide) e3 ?_
  exact ⟨rfl, N0, rfl⟩
theorem d12_0 : decode jdk_52_method_16_code 0 = .ok (.iload_n 2, 1) := by decide +kernel
theorem d12_1 : decode jdk_52_method_16_code 1 = .ok (.newarray .byte, 2) := by decide +kernel
theorem d12_3 : decode jdk_52_method_16_code 3 = .ok (.astore_n 3, 1) := by decide +kernel
theorem d12_4 : decode jdk_52_method_16_code 4 = .ok (.aload_n 0, 1) := by decide +kernel
theorem d12_5 : decode jdk_52_method_16_code 5 = .ok (.iload_n 1, 1) := by decide +kernel
theorem d12_6 : decode jdk_52_method_16_code 6 = .ok (.aload_n 3, 1) := by decide +kernel
theorem d12_7 : decode jdk_52_method_16_code 7 = .ok (.iconst 0, 1) := by decide +kernel
theorem d12_8 : decode jdk_52_method_16_code 8 = .ok (.iload_n 2, 1) := by decide +kernel
theorem w86 {a0 : Array Value} {Z : State} (hw : ∀ d ∈ tables_1, d.before a0 Z = true) : ((Jvm.Cond.code ({ cls := "java/lang/StringUTF16", name := "compress", desc := "([CI[BII)I" } : Jvm.MethodName) jdk_52_method_21_code (7 : Nat) (Option.some Jvm.ClassFile.FieldType.int))).before a0 Z = true := hw _ (List.mem_of_getElem? (i := 86) rfl)
theorem pd7 : parseMethodDescriptor "([CI[BII)I" = some ⟨[(.array .char), .int, (.array .byte), .int, .int], some .int⟩ := by decide +kernel
theorem d12_9 : decode jdk_52_method_16_code 9 = .ok (.invokestatic 115, 3) := by decide +kernel
theorem w84 {a0 : Array Value} {Z : State} (hw : ∀ d ∈ tables_1, d.before a0 Z = true) : ((Jvm.Cond.methodLink "java/lang/StringUTF16" (115 : Nat) ({ cls := "java/lang/StringUTF16", name := "compress", desc := "([CI[BII)I" } : Jvm.MethodName))).before a0 Z = true := hw _ (List.mem_of_getElem? (i := 84) rfl)
theorem w85 {a0 : Array Value} {Z : State} (hw : ∀ d ∈ tables_1, d.before a0 Z = true) : ((Jvm.Cond.static ({ cls := "java/lang/StringUTF16", name := "compress", desc := "([CI[BII)I" } : Jvm.MethodName))).before a0 Z = true := hw _ (List.mem_of_getElem? (i := 85) rfl)
theorem d12_12 : decode jdk_52_method_16_code 12 = .ok (.istore 4, 2) := by decide +kernel
theorem d12_14 : decode jdk_52_method_16_code 14 = .ok (.iload 4, 2) := by decide +kernel
theorem d12_16 : decode jdk_52_method_16_code 16 = .ok (.iload_n 2, 1) := by decide +kernel
theorem d12_17 : decode jdk_52_method_16_code 17 = .ok (.if_icmp .eq 40, 3) := by decide +kernel
theorem d12_57 : decode jdk_52_method_16_code 57 = .ok (.aload_n 3, 1) := by decide +kernel
theorem d12_58 : decode jdk_52_method_16_code 58 = .ok (.areturn, 1) := by decide +kernel
theorem d12_20 : decode jdk_52_method_16_code 20 = .ok (.aload_n 0, 1) := by decide +kernel
theorem d12_21 : decode jdk_52_method_16_code 21 = .ok (.iload_n 1, 1) := by decide +kernel
theorem d12_22 : decode jdk_52_method_16_code 22 = .ok (.iload_n 2, 1) := by decide +kernel
theorem w114 {a0 : Array Value} {Z : State} (hw : ∀ d ∈ tables_1, d.before a0 Z = true) : ((Jvm.Cond.code ({ cls := "java/lang/StringUTF16", name := "toBytes", desc := "([CII)[B" } : Jvm.MethodName) jdk_52_method_14_code (5 : Nat) (Option.some (Jvm.ClassFile.FieldType.array Jvm.ClassFile.FieldType.byte)))).before a0 Z = true := hw _ (List.mem_of_getElem? (i := 114) rfl)
theorem pd8 : parseMethodDescriptor "([CII)[B" = some ⟨[(.array .char), .int, .int], some (.array .byte)⟩ := by decide +kernel
theorem d12_23 : decode jdk_52_method_16_code 23 = .ok (.invokestatic 119, 3) := by decide +kernel
theorem w112 {a0 : Array Value} {Z : State} (hw : ∀ d ∈ tables_1, d.before a0 Z = true) : ((Jvm.Cond.methodLink "java/lang/StringUTF16" (119 : Nat) ({ cls := "java/lang/StringUTF16", name := "toBytes", desc := "([CII)[B" } : Jvm.MethodName))).before a0 Z = true := hw _ (List.mem_of_getElem? (i := 112) rfl)
theorem w113 {a0 : Array Value} {Z : State} (hw : ∀ d ∈ tables_1, d.before a0 Z = true) : ((Jvm.Cond.static ({ cls := "java/lang/StringUTF16", name := "toBytes", desc := "([CII)[B" } : Jvm.MethodName))).before a0 Z = true := hw _ (List.mem_of_getElem? (i := 113) rfl)
theorem d12_26 : decode jdk_52_method_16_code 26 = .ok (.astore 5, 2) := by decide +kernel
theorem d12_28 : decode jdk_52_method_16_code 28 = .ok (.aload 5, 2) := by decide +kernel
theorem d12_30 : decode jdk_52_method_16_code 30 = .ok (.iload 4, 2) := by decide +kernel
theorem w130 {a0 : Array Value} {Z : State} (hw : ∀ d ∈ tables_1, d.before a0 Z = true) : ((Jvm.Cond.code ({ cls := "java/lang/StringUTF16", name := "getChar", desc := "([BI)C" } : Jvm.MethodName) jdk_52_method_5_code (2 : Nat) (Option.some Jvm.ClassFile.FieldType.char))).before a0 Z = true := hw _ (List.mem_of_getElem? (i := 130) rfl)
theorem pd9 : parseMethodDescriptor "([BI)C" = some ⟨[(.array .byte), .int], some .char⟩ := by decide +kernel
theorem d12_32 : decode jdk_52_method_16_code 32 = .ok (.invokestatic 71, 3) := by decide +kernel
theorem w128 {a0 : Array Value} {Z : State} (hw : ∀ d ∈ tables_1, d.before a0 Z = true) : ((Jvm.Cond.methodLink "java/lang/StringUTF16" (71 : Nat) ({ cls := "java/lang/StringUTF16", name := "getChar", desc := "([BI)C" } : Jvm.MethodName))).before a0 Z = true := hw _ (List.mem_of_getElem? (i := 128) rfl)
theorem w129 {a0 : Array Value} {Z : State} (hw : ∀ d ∈ tables_1, d.before a0 Z = true) : ((Jvm.Cond.static ({ cls := "java/lang/StringUTF16", name := "getChar", desc := "([BI)C" } : Jvm.MethodName))).before a0 Z = true := hw _ (List.mem_of_getElem? (i := 129) rfl)
theorem d12_35 : decode jdk_52_method_16_code 35 = .ok (.sipush 255, 3) := by decide +kernel
theorem d12_38 : decode jdk_52_method_16_code 38 = .ok (.if_icmp .gt 16, 3) := by decide +kernel
theorem d12_54 : decode jdk_52_method_16_code 54 = .ok (.aload 5, 2) := by decide +kernel
theorem d12_56 : decode jdk_52_method_16_code 56 = .ok (.areturn, 1) := by decide +kernel
def rr_cmp3W : Room := { frames := 3, cells := 2, slots := 30, locals := 40 }
set_option maxRecDepth 65536 in
set_option maxHeartbeats 40000000 in
theorem rm_cmp3W (l : Launch) (Z : State) (a0 : Array Value) (hw : ∀ d ∈ tables_1, d.before a0 Z = true) (ws : List Jvm.Cond) (b : Addr) (kC : ClassId) (cs : List Int32) (n : Nat) (h0 : Heap) (n0 : Nat) (Z0 : n0 ≤ h0.size) (O0 : Old Z n0 h0) (VC : Arv Z h0 b kC .char (Int32.ofNat n) (cs.map Value.int) (.int (0 : Int32))) (hcap : n ≤ 10) (hcs : cs.length = n) (hn : n < 2 ^ 30) (hr : ∀ c ∈ cs, 0 ≤ c.toInt ∧ c.toInt < 65536) (UA : Sta Z Z.heap "java/lang/StringUTF16" "$assertionsDisabled" "Z" (.int (1 : Int32))) (UH : Sta Z Z.heap "java/lang/StringUTF16" "HI_BYTE_SHIFT" "I" (.int (0 : Int32))) (UL : Sta Z Z.heap "java/lang/StringUTF16" "LO_BYTE_SHIFT" "I" (.int (8 : Int32))) :
    Con l Z (⟨"java/lang/StringUTF16", "compress", "([CII)[B"⟩ : MethodName) jdk_52_method_16_code 6 (some (.array .byte)) ws rr_cmp3W #[(.ref b), (.int (0 : Int32)), (.int (Int32.ofNat n))] h0 (fun v h L => ∃ (t : Addr) (k : ClassId) (cd : Int32) (xs : List Int32), v = some (.ref t) ∧ Fr n0 L ∧ Ext h0 h ∧ h0.size ≤ t ∧ Enc n cs xs cd ∧ Arv Z h t k .byte (Int32.ofNat xs.length) (xs.map Value.int) (.int (0 : Int32))) := by
  refine Con.enter (plainFor_of_name pn3) ?_
  intro p e s m below meth c s₁ X0 hx hZ hby hml hret hlk hown hnm e0
  have N0 := Fr.nil n0
  refine Go.cast (g' := (mkF m 0 #[.val (.ref b), .val (.int (0 : Int32)), .val (.int (Int32.ofNat n)), .unset, .unset, .unset] [])) (by first | rfl | (simp [entryFrame, mkF, argsToLocals, Value.category]; done)) ?_
  refine Go.st (T' := s₁) (g' := (mkF m 1 #[.val (.ref b), .val (.int (0 : Int32)), .val (.int (Int32.ofNat n)), .unset, .unset, .unset] [(.int (Int32.ofNat n))])) (fun _ zk => XS.iloadN X0.here hx rfl (hb hby d12_0) rfl zk) ?_
  obtain ⟨T1, h1, k1, X1, e1, E1, A1, st1⟩ := newP (aty := .byte) X0 hx hZ (w21 hw) e0 (g := (mkF m 1 #[.val (.ref b), .val (.int (0 : Int32)), .val (.int (Int32.ofNat n)), .unset, .unset, .unset] [(.int (Int32.ofNat n))])) rfl (hb hby d12_1) rfl (own_ofn0 (by omega)) (cap := 10) (by rw [own_clamp (by omega)]; exact hcap) (by decide) (by decide) (by decide)
  obtain ⟨b1, g1⟩ : ∃ z, z = h0.size := ⟨_, rfl⟩
  rw [← g1] at A1 st1
  have V1 := own_newA A1 (by omega)
  refine Go.st (T' := T1) (g' := (mkF m 3 #[.val (.ref b), .val (.int (0 : Int32)), .val (.int (Int32.ofNat n)), .unset, .unset, .unset] [(.ref b1)])) (fun _ zk => st1 _ zk) ?_
  refine Go.st (T' := T1) (g' := (mkF m 4 #[.val (.ref b), .val (.int (0 : Int32)), .val (.int (Int32.ofNat n)), .val (.ref b1), .unset, .unset] [])) (fun _ zk => XS.astoreN X1.here hx rfl (hb hby d12_3) rfl rfl (l' := #[.val (.ref b), .val (.int (0 : Int32)), .val (.int (Int32.ofNat n)), .val (.ref b1), .unset, .unset]) rfl zk) ?_
  refine Go.st (T' := T1) (g' := (mkF m 5 #[.val (.ref b), .val (.int (0 : Int32)), .val (.int (Int32.ofNat n)), .val (.ref b1), .unset, .unset] [(.ref b)])) (fun _ zk => XS.aloadN X1.here hx rfl (hb hby d12_4) rfl rfl zk) ?_
  refine Go.st (T' := T1) (g' := (mkF m 6 #[.val (.ref b), .val (.int (0 : Int32)), .val (.int (Int32.ofNat n)), .val (.ref b1), .unset, .unset] [(.int (0 : Int32)), (.ref b)])) (fun _ zk => XS.iloadN X1.here hx rfl (hb hby d12_5) rfl zk) ?_
  refine Go.st (T' := T1) (g' := (mkF m 7 #[.val (.ref b), .val (.int (0 : Int32)), .val (.int (Int32.ofNat n)), .val (.ref b1), .unset, .unset] [(.ref b1), (.int (0 : Int32)), (.ref b)])) (fun _ zk => XS.aloadN X1.here hx rfl (hb hby d12_6) rfl rfl zk) ?_
  refine Go.st (T' := T1) (g' := (mkF m 8 #[.val (.ref b), .val (.int (0 : Int32)), .val (.int (Int32.ofNat n)), .val (.ref b1), .unset, .unset] [(.int (0 : Int32)), (.ref b1), (.int (0 : Int32)), (.ref b)])) (fun _ zk => XS.iconst X1.here hx rfl (hb hby d12_7) zk) ?_
  refine Go.st (T' := T1) (g' := (mkF m 9 #[.val (.ref b), .val (.int (0 : Int32)), .val (.int (Int32.ofNat n)), .val (.ref b1), .unset, .unset] [(.int (Int32.ofNat n)), (.int (0 : Int32)), (.ref b1), (.int (0 : Int32)), (.ref b)])) (fun _ zk => XS.iloadN X1.here hx rfl (hb hby d12_8) rfl zk) ?_
  have xt2 : Ext h0 h1 := E1
  have f3 := VC.ext xt2
  refine Go.callSt (y := (⟨"java/lang/StringUTF16", "compress", "([CI[BII)I"⟩ : MethodName)) X1 hx hZ hown e1 (w84 hw) (w85 hw) (w82 hw) (w86 hw) (by decide) (argsL := [(.ref b), (.int (0 : Int32)), (.ref b1), (.int (0 : Int32)), (.int (Int32.ofNat n))]) (rest := []) (W := 0) (rm_cmp5W l Z a0 hw [] b b1 kC k1 cs (List.replicate n (0 : Int32)) n h1 n0 (Nat.le_trans Z0 E1.1) f3 V1 (ne_lt VC.lt (Nat.le_refl _) (Nat.le_of_eq g1.symm)) (Nat.le_trans Z0 (Nat.le_trans (Nat.le_refl _) (Nat.le_of_eq g1.symm))) (by rw [List.length_replicate]) hcs hn) rfl (lenOf pd7 rfl) rfl (by rw [hml]; rfl) rfl (by show 2 * 0 + _ ≤ _; exact Nat.le_of_eq rfl) (by decide) (by decide) (by decide) (by decide) (hb hby d12_9) ?_
  intro v4 T4 h4 L4 X4 e4 q4
  obtain ⟨j, hv4, hj1, hj2, hj3, Nf4, K4, xs, hl, V4, hj4⟩ := q4
  subst hv4
  have N4 := Fr.app N0 Nf4
  show Go p.tables e below _ T4 (mkF m 12 #[.val (.ref b), .val (.int (0 : Int32)), .val (.int (Int32.ofNat n)), .val (.ref b1), .unset, .unset] [(.int (Int32.ofNat j))])
  refine Go.st (T' := T4) (g' := (mkF m 14 #[.val (.ref b), .val (.int (0 : Int32)), .val (.int (Int32.ofNat n)), .val (.ref b1), .val (.int (Int32.ofNat j)), .unset] [])) (fun _ zk => XS.istore X4.here hx rfl (hb hby d12_12) rfl (l' := #[.val (.ref b), .val (.int (0 : Int32)), .val (.int (Int32.ofNat n)), .val (.ref b1), .val (.int (Int32.ofNat j)), .unset]) rfl zk) ?_
  refine Go.st (T' := T4) (g' := (mkF m 16 #[.val (.ref b), .val (.int (0 : Int32)), .val (.int (Int32.ofNat n)), .val (.ref b1), .val (.int (Int32.ofNat j)), .unset] [(.int (Int32.ofNat j))])) (fun _ zk => XS.iload X4.here hx rfl (hb hby d12_14) rfl zk) ?_
  refine Go.st (T' := T4) (g' := (mkF m 17 #[.val (.ref b), .val (.int (0 : Int32)), .val (.int (Int32.ofNat n)), .val (.ref b1), .val (.int (Int32.ofNat j)), .unset] [(.int (Int32.ofNat n)), (.int (Int32.ofNat j))])) (fun _ zk => XS.iloadN X4.here hx rfl (hb hby d12_16) rfl zk) ?_
  by_cases hc17 : (Int32.ofNat j) = (Int32.ofNat n)
  · refine Go.st (T' := T4) (g' := (mkF m 57 #[.val (.ref b), .val (.int (0 : Int32)), .val (.int (Int32.ofNat n)), .val (.ref b1), .val (.int (Int32.ofNat j)), .unset] [])) (fun _ zk => XS.icmpYes X4.here hx rfl (pc0 := 17) (pc' := 57) rfl (hb hby d12_17) rfl (teq hc17).1 (by decide) (by decide) zk) ?_
    refine Go.st (T' := T4) (g' := (mkF m 58 #[.val (.ref b), .val (.int (0 : Int32)), .val (.int (Int32.ofNat n)), .val (.ref b1), .val (.int (Int32.ofNat j)), .unset] [(.ref b1)])) (fun _ zk => XS.aloadN X4.here hx rfl (hb hby d12_57) rfl rfl zk) ?_
    have xt5 : Ext h0 h4 := (xt2.thenK K4 (allS (P := fun x => h0.size ≤ x) (Nat.le_of_eq g1.symm) all0))
    refine Go.retA X4 hx hlk hret rfl rfl (hb hby d12_58) (by decide) (by decide) e4 ?_
    have hjn : j = n := own_ofinj (by omega) (by omega) hc17
    subst hjn
    refine ⟨_, k1, 0, xs, rfl, N4, xt5, (Nat.le_trans (Nat.le_refl _) (Nat.le_of_eq g1.symm)), Or.inl ⟨rfl, hl, hj3, hj4⟩, ?_⟩
    rw [hl]; exact V4
  · refine Go.st (T' := T4) (g' := (mkF m 20 #[.val (.ref b), .val (.int (0 : Int32)), .val (.int (Int32.ofNat n)), .val (.ref b1), .val (.int (Int32.ofNat j)), .unset] [])) (fun _ zk => XS.icmpNo X4.here hx rfl (hb hby d12_17) rfl (feq hc17).1 zk) ?_
    refine Go.st (T' := T4) (g' := (mkF m 21 #[.val (.ref b), .val (.int (0 : Int32)), .val (.int (Int32.ofNat n)), .val (.ref b1), .val (.int (Int32.ofNat j)), .unset] [(.ref b)])) (fun _ zk => XS.aloadN X4.here hx rfl (hb hby d12_20) rfl rfl zk) ?_
    refine Go.st (T' := T4) (g' := (mkF m 22 #[.val (.ref b), .val (.int (0 : Int32)), .val (.int (Int32.ofNat n)), .val (.ref b1), .val (.int (Int32.ofNat j)), .unset] [(.int (0 : Int32)), (.ref b)])) (fun _ zk => XS.iloadN X4.here hx rfl (hb hby d12_21) rfl zk) ?_
    refine Go.st (T' := T4) (g' := (mkF m 23 #[.val (.ref b), .val (.int (0 : Int32)), .val (.int (Int32.ofNat n)), .val (.ref b1), .val (.int (Int32.ofNat j)), .unset] [(.int (Int32.ofNat n)), (.int (0 : Int32)), (.ref b)])) (fun _ zk => XS.iloadN X4.here hx rfl (hb hby d12_22) rfl zk) ?_
    have hjn : j < n := Nat.lt_of_le_of_ne hj1 fun q => hc17 (by rw [q])
    have f6 := (f3.keep K4 (ninS (ne_lt VC.lt (Nat.le_refl _) (Nat.le_of_eq g1.symm)) nin0))
    have xt8 : Ext h0 h4 := (xt2.thenK K4 (allS (P := fun x => h0.size ≤ x) (Nat.le_of_eq g1.symm) all0))
    have f9 := O0.ext xt8
    refine Go.callSt (y := (⟨"java/lang/StringUTF16", "toBytes", "([CII)[B"⟩ : MethodName)) X4 hx hZ hown e4 (w112 hw) (w113 hw) (w82 hw) (w114 hw) (by decide) (argsL := [(.ref b), (.int (0 : Int32)), (.int (Int32.ofNat n))]) (rest := []) (W := 0) (rm_tobW l Z a0 hw [] b kC cs n h4 n0 (Nat.le_trans Z0 (Nat.le_trans E1.1 K4.1)) f9 f6 hcap hcs hn UA UH UL) rfl (lenOf pd8 rfl) rfl (by rw [hml]; rfl) rfl (by show 2 * 0 + _ ≤ _; exact Nat.le_of_eq rfl) (by decide) (by decide) (by decide) (by decide) (hb hby d12_23) ?_
    intro v7 T7 h7 L7 X7 e7 q7
    obtain ⟨t, kt, ys, hv7, Nf7, E7, ge7, hy, V7, hy2⟩ := q7
    subst hv7
    have N7 := Fr.app N4 Nf7
    show Go p.tables e below _ T7 (mkF m 26 #[.val (.ref b), .val (.int (0 : Int32)), .val (.int (Int32.ofNat n)), .val (.ref b1), .val (.int (Int32.ofNat j)), .unset] [(.ref t)])
    refine Go.st (T' := T7) (g' := (mkF m 28 #[.val (.ref b), .val (.int (0 : Int32)), .val (.int (Int32.ofNat n)), .val (.ref b1), .val (.int (Int32.ofNat j)), .val (.ref t)] [])) (fun _ zk => XS.astore X7.here hx rfl (hb hby d12_26) rfl rfl (l' := #[.val (.ref b), .val (.int (0 : Int32)), .val (.int (Int32.ofNat n)), .val (.ref b1), .val (.int (Int32.ofNat j)), .val (.ref t)]) rfl zk) ?_
    refine Go.st (T' := T7) (g' := (mkF m 30 #[.val (.ref b), .val (.int (0 : Int32)), .val (.int (Int32.ofNat n)), .val (.ref b1), .val (.int (Int32.ofNat j)), .val (.ref t)] [(.ref t)])) (fun _ zk => XS.aload X7.here hx rfl (hb hby d12_28) rfl rfl zk) ?_
    refine Go.st (T' := T7) (g' := (mkF m 32 #[.val (.ref b), .val (.int (0 : Int32)), .val (.int (Int32.ofNat n)), .val (.ref b1), .val (.int (Int32.ofNat j)), .val (.ref t)] [(.int (Int32.ofNat j)), (.ref t)])) (fun _ zk => XS.iload X7.here hx rfl (hb hby d12_30) rfl zk) ?_
    have xt11 : Ext h4 h7 := E7
    have f12 := f9.ext xt11
    refine Go.callSt (y := (⟨"java/lang/StringUTF16", "getChar", "([BI)C"⟩ : MethodName)) X7 hx hZ hown e7 (w128 hw) (w129 hw) (w82 hw) (w130 hw) (by decide) (argsL := [(.ref t), (.int (Int32.ofNat j))]) (rest := []) (W := 0) (rm_getW l Z a0 hw [] t kt ys (2 * n) j h7 n0 (Nat.le_trans Z0 (Nat.le_trans (Nat.le_trans E1.1 K4.1) E7.1)) f12 V7 hy (by omega) (by omega) UA UH UL) rfl (lenOf pd9 rfl) rfl (by rw [hml]; rfl) rfl (by show 2 * 0 + _ ≤ _; exact Nat.le_of_eq rfl) (by decide) (by decide) (by decide) (by decide) (hb hby d12_32) ?_
    intro v10 T10 h10 L10 X10 e10 q10
    obtain ⟨hv10, Nf10, hh10⟩ := q10
    subst hv10
    have E10 : T10.heap = h7 := e10.trans hh10
    have N10 := Fr.app N7 Nf10
    show Go p.tables e below _ T10 (mkF m 35 #[.val (.ref b), .val (.int (0 : Int32)), .val (.int (Int32.ofNat n)), .val (.ref b1), .val (.int (Int32.ofNat j)), .val (.ref t)] [(.int (((((ys.getD (2 * j) 0) &&& (255 : Int32)) <<< ((0 : Int32) &&& 31)) ||| (((ys.getD (2 * j + 1) 0) &&& (255 : Int32)) <<< ((8 : Int32) &&& 31))).toUInt32.toUInt16.toUInt32.toInt32))])
    rw [(hy2 j hjn).1, (hy2 j hjn).2, own_cc (own_rg hr hcs hjn)]
    refine Go.st (T' := T10) (g' := (mkF m 38 #[.val (.ref b), .val (.int (0 : Int32)), .val (.int (Int32.ofNat n)), .val (.ref b1), .val (.int (Int32.ofNat j)), .val (.ref t)] [(.int (255 : Int32)), (.int (cs.getD j 0))])) (fun _ zk => XS.sipush X10.here hx rfl (hb hby d12_35) zk) ?_
    refine Go.st (T' := T10) (g' := (mkF m 54 #[.val (.ref b), .val (.int (0 : Int32)), .val (.int (Int32.ofNat n)), .val (.ref b1), .val (.int (Int32.ofNat j)), .val (.ref t)] [])) (fun _ zk => XS.icmpYes X10.here hx rfl (pc0 := 38) (pc' := 54) rfl (hb hby d12_38) rfl (tlt (hj2 hjn : (255 : Int32) < (cs.getD j 0))).2.2.1 (by decide) (by decide) zk) ?_
    refine Go.st (T' := T10) (g' := (mkF m 56 #[.val (.ref b), .val (.int (0 : Int32)), .val (.int (Int32.ofNat n)), .val (.ref b1), .val (.int (Int32.ofNat j)), .val (.ref t)] [(.ref t)])) (fun _ zk => XS.aload X10.here hx rfl (hb hby d12_54) rfl rfl zk) ?_
    have xt13 : Ext h0 h7 := (xt8.tr E7)
    refine Go.retA X10 hx hlk hret rfl rfl (hb hby d12_56) (by decide) (by decide) E10 ?_
    refine ⟨t, kt, 1, ys, rfl, N10, xt13, (Nat.le_trans (Nat.le_trans E1.1 K4.1) ge7), Or.inr ⟨rfl, hy, ⟨j, hjn, hj2 hjn⟩, hy2⟩, ?_⟩
    rw [hy]; exact V7
theorem d14_0 : decode jdk_52_method_15_code 0 = .ok (.iload_n 1, 1) := by decide +kernel
theorem d14_1 : decode jdk_52_method_15_code 1 = .ok (.aload_n 0, 1) := by decide +kernel
theorem d14_2 : decode jdk_52_method_15_code 2 = .ok (.arraylength, 1) := by decide +kernel
theorem d14_3 : decode jdk_52_method_15_code 3 = .ok (.isub, 1) := by decide +kernel
theorem d14_4 : decode jdk_52_method_15_code 4 = .ok (.bipush 31, 2) := by decide +kernel
theorem d14_6 : decode jdk_52_method_15_code 6 = .ok (.iushr, 1) := by decide +kernel
theorem d14_7 : decode jdk_52_method_15_code 7 = .ok (.i2b, 1) := by decide +kernel
theorem d14_8 : decode jdk_52_method_15_code 8 = .ok (.ireturn, 1) := by decide +kernel
def rr_codW : Room := { frames := 0, cells := 0, slots := 0, locals := 0 }
set_option maxRecDepth 65536 in
set_option maxHeartbeats 40000000 in
theorem rm_codW (l : Launch) (Z : State) (a0 : Array Value) (hw : ∀ d ∈ tables_1, d.before a0 Z = true) (ws : List Jvm.Cond) (t : Addr) (k : ClassId) (cs xs : List Int32) (cd : Int32) (n : Nat) (h0 : Heap) (n0 : Nat) (Z0 : n0 ≤ h0.size) (V1 : Arv Z h0 t k .byte (Int32.ofNat xs.length) (xs.map Value.int) (.int (0 : Int32))) (He : Enc n cs xs cd) (h0n : 0 < n) (hn : n < 2 ^ 30) :
    Con l Z (⟨"java/lang/StringUTF16", "coderFromArrayLen", "([BI)B"⟩ : MethodName) jdk_52_method_15_code 2 (some .byte) ws rr_codW #[(.ref t), (.int (Int32.ofNat n))] h0 (fun v h L => v = some (.int cd) ∧ Fr n0 L ∧ h = h0) := by
  refine Con.enter (plainFor_of_name pn3) ?_
  intro p e s m below meth c s₁ X0 hx hZ hby hml hret hlk hown hnm e0
  have N0 := Fr.nil n0
  refine Go.cast (g' := (mkF m 0 #[.val (.ref t), .val (.int (Int32.ofNat n))] [])) (by first | rfl | (simp [entryFrame, mkF, argsToLocals, Value.category]; done)) ?_
  refine Go.st (T' := s₁) (g' := (mkF m 1 #[.val (.ref t), .val (.int (Int32.ofNat n))] [(.int (Int32.ofNat n))])) (fun _ zk => XS.iloadN X0.here hx rfl (hb hby d14_0) rfl zk) ?_
  refine Go.st (T' := s₁) (g' := (mkF m 2 #[.val (.ref t), .val (.int (Int32.ofNat n))] [(.ref t), (.int (Int32.ofNat n))])) (fun _ zk => XS.aloadN X0.here hx rfl (hb hby d14_1) rfl rfl zk) ?_
  refine Go.st (T' := s₁) (g' := (mkF m 3 #[.val (.ref t), .val (.int (Int32.ofNat n))] [(.int (Int32.ofNat xs.length)), (.int (Int32.ofNat n))])) (fun _ zk => lenV X0 hx hZ e0 V1 (g := (mkF m 2 #[.val (.ref t), .val (.int (Int32.ofNat n))] [(.ref t), (.int (Int32.ofNat n))])) rfl (rest := [(.int (Int32.ofNat n))]) rfl (hb hby d14_2) zk) ?_
  refine Go.st (T' := s₁) (g' := (mkF m 4 #[.val (.ref t), .val (.int (Int32.ofNat n))] [(.int ((Int32.ofNat n) - (Int32.ofNat xs.length)))])) (fun _ zk => XS.isub X0.here hx rfl (hb hby d14_3) rfl zk) ?_
  refine Go.st (T' := s₁) (g' := (mkF m 6 #[.val (.ref t), .val (.int (Int32.ofNat n))] [(.int (31 : Int32)), (.int ((Int32.ofNat n) - (Int32.ofNat xs.length)))])) (fun _ zk => XS.bipush X0.here hx rfl (hb hby d14_4) zk) ?_
  refine Go.st (T' := s₁) (g' := (mkF m 7 #[.val (.ref t), .val (.int (Int32.ofNat n))] [(.int ((((Int32.ofNat n) - (Int32.ofNat xs.length)).toUInt32 >>> ((31 : Int32) &&& 31).toUInt32).toInt32))])) (fun _ zk => XS.iushr X0.here hx rfl (hb hby d14_6) rfl zk) ?_
  refine Go.st (T' := s₁) (g' := (mkF m 8 #[.val (.ref t), .val (.int (Int32.ofNat n))] [(.int (((((Int32.ofNat n) - (Int32.ofNat xs.length)).toUInt32 >>> ((31 : Int32) &&& 31).toUInt32).toInt32).toInt8.toInt32))])) (fun _ zk => XS.i2b X0.here hx rfl (hb hby d14_7) rfl zk) ?_
  rw [own_cod He h0n hn]
  refine Go.retN X0 hx hlk hret (own_narB He.cd) (by simp) (hb hby d14_8) (by decide) (by decide) e0 ?_
  exact ⟨rfl, N0, rfl⟩
theorem d3_0 : decode jdk_42_method_149_code 0 = .ok (.aload_n 0, 1) := by decide +kernel
theorem d3_1 : decode jdk_42_method_149_code 1 = .ok (.invokespecial 1, 3) := by decide +kernel
theorem w17 {a0 : Array Value} {Z : State} (hw : ∀ d ∈ tables_1, d.before a0 Z = true) : ((Jvm.Cond.methodLink "java/lang/String" (1 : Nat) ({ cls := "java/lang/Object", name := "<init>", desc := "()V" } : Jvm.MethodName))).before a0 Z = true := hw _ (List.mem_of_getElem? (i := 17) rfl)
theorem w18 {a0 : Array Value} {Z : State} (hw : ∀ d ∈ tables_1, d.before a0 Z = true) : ((Jvm.Cond.instanceMethod ({ cls := "java/lang/Object", name := "<init>", desc := "()V" } : Jvm.MethodName))).before a0 Z = true := hw _ (List.mem_of_getElem? (i := 18) rfl)
theorem w19 {a0 : Array Value} {Z : State} (hw : ∀ d ∈ tables_1, d.before a0 Z = true) : ((Jvm.Cond.code ({ cls := "java/lang/Object", name := "<init>", desc := "()V" } : Jvm.MethodName) object_method_1_code (1 : Nat) (Option.none : Option Jvm.ClassFile.FieldType))).before a0 Z = true := hw _ (List.mem_of_getElem? (i := 19) rfl)
theorem d3_4 : decode jdk_42_method_149_code 4 = .ok (.iload_n 3, 1) := by decide +kernel
theorem d3_5 : decode jdk_42_method_149_code 5 = .ok (.ifCond .ne 22, 3) := by decide +kernel
theorem d3_27 : decode jdk_42_method_149_code 27 = .ok (.getstatic 38, 3) := by decide +kernel
theorem d3_30 : decode jdk_42_method_149_code 30 = .ok (.ifCond .eq 28, 3) := by decide +kernel
theorem d3_33 : decode jdk_42_method_149_code 33 = .ok (.aload_n 1, 1) := by decide +kernel
theorem d3_34 : decode jdk_42_method_149_code 34 = .ok (.iload_n 2, 1) := by decide +kernel
theorem d3_35 : decode jdk_42_method_149_code 35 = .ok (.iload_n 3, 1) := by decide +kernel
theorem w83 {a0 : Array Value} {Z : State} (hw : ∀ d ∈ tables_1, d.before a0 Z = true) : ((Jvm.Cond.code ({ cls := "java/lang/StringUTF16", name := "compress", desc := "([CII)[B" } : Jvm.MethodName) jdk_52_method_16_code (6 : Nat) (Option.some (Jvm.ClassFile.FieldType.array Jvm.ClassFile.FieldType.byte)))).before a0 Z = true := hw _ (List.mem_of_getElem? (i := 83) rfl)
theorem d3_36 : decode jdk_42_method_149_code 36 = .ok (.invokestatic 177, 3) := by decide +kernel
theorem w80 {a0 : Array Value} {Z : State} (hw : ∀ d ∈ tables_1, d.before a0 Z = true) : ((Jvm.Cond.methodLink "java/lang/String" (177 : Nat) ({ cls := "java/lang/StringUTF16", name := "compress", desc := "([CII)[B" } : Jvm.MethodName))).before a0 Z = true := hw _ (List.mem_of_getElem? (i := 80) rfl)
theorem w81 {a0 : Array Value} {Z : State} (hw : ∀ d ∈ tables_1, d.before a0 Z = true) : ((Jvm.Cond.static ({ cls := "java/lang/StringUTF16", name := "compress", desc := "([CII)[B" } : Jvm.MethodName))).before a0 Z = true := hw _ (List.mem_of_getElem? (i := 81) rfl)
theorem d3_39 : decode jdk_42_method_149_code 39 = .ok (.astore 5, 2) := by decide +kernel
theorem d3_41 : decode jdk_42_method_149_code 41 = .ok (.aload_n 0, 1) := by decide +kernel
theorem d3_42 : decode jdk_42_method_149_code 42 = .ok (.aload 5, 2) := by decide +kernel
theorem d3_44 : decode jdk_42_method_149_code 44 = .ok (.iload_n 3, 1) := by decide +kernel
theorem w89 {a0 : Array Value} {Z : State} (hw : ∀ d ∈ tables_1, d.before a0 Z = true) : ((Jvm.Cond.code ({ cls := "java/lang/StringUTF16", name := "coderFromArrayLen", desc := "([BI)B" } : Jvm.MethodName) jdk_52_method_15_code (2 : Nat) (Option.some Jvm.ClassFile.FieldType.byte))).before a0 Z = true := hw _ (List.mem_of_getElem? (i := 89) rfl)
theorem pd10 : parseMethodDescriptor "([BI)B" = some ⟨[(.array .byte), .int], some .byte⟩ := by decide +kernel
theorem d3_45 : decode jdk_42_method_149_code 45 = .ok (.invokestatic 47, 3) := by decide +kernel
theorem w87 {a0 : Array Value} {Z : State} (hw : ∀ d ∈ tables_1, d.before a0 Z = true) : ((Jvm.Cond.methodLink "java/lang/String" (47 : Nat) ({ cls := "java/lang/StringUTF16", name := "coderFromArrayLen", desc := "([BI)B" } : Jvm.MethodName))).before a0 Z = true := hw _ (List.mem_of_getElem? (i := 87) rfl)
theorem w88 {a0 : Array Value} {Z : State} (hw : ∀ d ∈ tables_1, d.before a0 Z = true) : ((Jvm.Cond.static ({ cls := "java/lang/StringUTF16", name := "coderFromArrayLen", desc := "([BI)B" } : Jvm.MethodName))).before a0 Z = true := hw _ (List.mem_of_getElem? (i := 88) rfl)
theorem d3_48 : decode jdk_42_method_149_code 48 = .ok (.putfield 15, 3) := by decide +kernel
theorem w8 {a0 : Array Value} {Z : State} (hw : ∀ d ∈ tables_1, d.before a0 Z = true) : ((Jvm.Cond.instantiable "java/lang/String" (4 : Nat))).before a0 Z = true := hw _ (List.mem_of_getElem? (i := 8) rfl)
theorem w23 {a0 : Array Value} {Z : State} (hw : ∀ d ∈ tables_1, d.before a0 Z = true) : ((Jvm.Cond.laysFinal "java/lang/String" "java/lang/String" "coder" "B")).before a0 Z = true := hw _ (List.mem_of_getElem? (i := 23) rfl)
theorem d3_51 : decode jdk_42_method_149_code 51 = .ok (.aload_n 0, 1) := by decide +kernel
theorem d3_52 : decode jdk_42_method_149_code 52 = .ok (.aload 5, 2) := by decide +kernel
theorem d3_54 : decode jdk_42_method_149_code 54 = .ok (.putfield 9, 3) := by decide +kernel
theorem w22 {a0 : Array Value} {Z : State} (hw : ∀ d ∈ tables_1, d.before a0 Z = true) : ((Jvm.Cond.laysFinal "java/lang/String" "java/lang/String" "value" "[B")).before a0 Z = true := hw _ (List.mem_of_getElem? (i := 22) rfl)
theorem d3_57 : decode jdk_42_method_149_code 57 = .ok (.return_, 1) := by decide +kernel
def rr_init4W : Room := { frames := 4, cells := 2, slots := 30, locals := 57 }
set_option maxRecDepth 65536 in
set_option maxHeartbeats 40000000 in
theorem rm_init4W (l : Launch) (Z : State) (a0 : Array Value) (hw : ∀ d ∈ tables_1, d.before a0 Z = true) (ws : List Jvm.Cond) (a1 b : Addr) (kC : ClassId) (cs : List Int32) (n : Nat) (zc : Int32) (h0 : Heap) (n0 : Nat) (Z0 : n0 ≤ h0.size) (O0 : Old Z n0 h0) (E0 : Exa Z h0 a1 "java/lang/String") (g0 : n0 ≤ a1) (C0 : Fld Z h0 a1 "java/lang/String" "coder" "B" (.int (0 : Int32))) (V0 : Fld Z h0 a1 "java/lang/String" "value" "[B" .null) (VC : Arv Z h0 b kC .char (Int32.ofNat n) (cs.map Value.int) (.int (0 : Int32))) (hcap : n ≤ 10) (hcs : cs.length = n) (hn : n < 2 ^ 30) (h0n : 0 < n) (hr : ∀ c ∈ cs, 0 ≤ c.toInt ∧ c.toInt < 65536) (CS : Sta Z Z.heap "java/lang/String" "COMPACT_STRINGS" "Z" (.int zc)) (hz : ¬ zc = 0) (UA : Sta Z Z.heap "java/lang/StringUTF16" "$assertionsDisabled" "Z" (.int (1 : Int32))) (UH : Sta Z Z.heap "java/lang/StringUTF16" "HI_BYTE_SHIFT" "I" (.int (0 : Int32))) (UL : Sta Z Z.heap "java/lang/StringUTF16" "LO_BYTE_SHIFT" "I" (.int (8 : Int32))) :
    Con l Z (⟨"java/lang/String", "<init>", "([CIILjava/lang/Void;)V"⟩ : MethodName) jdk_42_method_149_code 6 none ws rr_init4W #[(.ref a1), (.ref b), (.int (0 : Int32)), (.int (Int32.ofNat n)), .null] h0 (fun v h L => v = none ∧ Fr n0 L ∧ Keep h0 h [a1] ∧ StrC Z h a1 n cs) := by
  refine Con.enter (plainFor_of_name pn2) ?_
  intro p e s m below meth c s₁ X0 hx hZ hby hml hret hlk hown hnm e0
  have N0 := Fr.nil n0
  refine Go.cast (g' := (mkF m 0 #[.val (.ref a1), .val (.ref b), .val (.int (0 : Int32)), .val (.int (Int32.ofNat n)), .val .null, .unset] [])) (by first | rfl | (simp [entryFrame, mkF, argsToLocals, Value.category]; done)) ?_
  refine Go.st (T' := s₁) (g' := (mkF m 1 #[.val (.ref a1), .val (.ref b), .val (.int (0 : Int32)), .val (.int (Int32.ofNat n)), .val .null, .unset] [(.ref a1)])) (fun _ zk => XS.aloadN X0.here hx rfl (hb hby d3_0) rfl rfl zk) ?_
  obtain ⟨T1, X1, e1, st1⟩ := initO X0 hx hZ hown (w17 hw) (w18 hw) (w19 hw) e0 (g := (mkF m 1 #[.val (.ref a1), .val (.ref b), .val (.int (0 : Int32)), .val (.int (Int32.ofNat n)), .val .null, .unset] [(.ref a1)])) rfl (by rw [hml]; rfl) rfl (hb hby d3_1) (by decide) (W := 0) (by show 2 * 0 + _ ≤ _; exact Nat.le_of_eq rfl) (by decide)
  refine Go.st (T' := T1) (g' := (mkF m 4 #[.val (.ref a1), .val (.ref b), .val (.int (0 : Int32)), .val (.int (Int32.ofNat n)), .val .null, .unset] [])) (fun _ zk => st1 _ zk) ?_
  refine Go.st (T' := T1) (g' := (mkF m 5 #[.val (.ref a1), .val (.ref b), .val (.int (0 : Int32)), .val (.int (Int32.ofNat n)), .val .null, .unset] [(.int (Int32.ofNat n))])) (fun _ zk => XS.iloadN X1.here hx rfl (hb hby d3_4) rfl zk) ?_
  refine Go.st (T' := T1) (g' := (mkF m 27 #[.val (.ref a1), .val (.ref b), .val (.int (0 : Int32)), .val (.int (Int32.ofNat n)), .val .null, .unset] [])) (fun _ zk => XS.ifYes X1.here hx rfl (pc0 := 5) (pc' := 27) rfl (hb hby d3_5) rfl ((if0 _ _).trans (feq (own_posn h0n hn : ¬ ((Int32.ofNat n) = (0 : Int32)))).2) (by decide) (by decide) zk) ?_
  obtain ⟨T2, X2, e2, st2⟩ := getS2 X1 hx hZ hown (host := "") (Or.inl (w35 hw)) Via.refl e1 (CS.ext O0.2) (g := (mkF m 27 #[.val (.ref a1), .val (.ref b), .val (.int (0 : Int32)), .val (.int (Int32.ofNat n)), .val .null, .unset] [])) rfl (hb hby d3_27)
  refine Go.st (T' := T2) (g' := (mkF m 30 #[.val (.ref a1), .val (.ref b), .val (.int (0 : Int32)), .val (.int (Int32.ofNat n)), .val .null, .unset] [(.int zc)])) (fun _ zk => st2 _ zk) ?_
  refine Go.st (T' := T2) (g' := (mkF m 33 #[.val (.ref a1), .val (.ref b), .val (.int (0 : Int32)), .val (.int (Int32.ofNat n)), .val .null, .unset] [])) (fun _ zk => XS.ifNo X2.here hx rfl (hb hby d3_30) rfl ((if0 _ _).trans (feq (hz : ¬ (zc = (0 : Int32)))).1) zk) ?_
  refine Go.st (T' := T2) (g' := (mkF m 34 #[.val (.ref a1), .val (.ref b), .val (.int (0 : Int32)), .val (.int (Int32.ofNat n)), .val .null, .unset] [(.ref b)])) (fun _ zk => XS.aloadN X2.here hx rfl (hb hby d3_33) rfl rfl zk) ?_
  refine Go.st (T' := T2) (g' := (mkF m 35 #[.val (.ref a1), .val (.ref b), .val (.int (0 : Int32)), .val (.int (Int32.ofNat n)), .val .null, .unset] [(.int (0 : Int32)), (.ref b)])) (fun _ zk => XS.iloadN X2.here hx rfl (hb hby d3_34) rfl zk) ?_
  refine Go.st (T' := T2) (g' := (mkF m 36 #[.val (.ref a1), .val (.ref b), .val (.int (0 : Int32)), .val (.int (Int32.ofNat n)), .val .null, .unset] [(.int (Int32.ofNat n)), (.int (0 : Int32)), (.ref b)])) (fun _ zk => XS.iloadN X2.here hx rfl (hb hby d3_35) rfl zk) ?_
  refine Go.callSt (y := (⟨"java/lang/StringUTF16", "compress", "([CII)[B"⟩ : MethodName)) X2 hx hZ hown e2 (w80 hw) (w81 hw) (w82 hw) (w83 hw) (by decide) (argsL := [(.ref b), (.int (0 : Int32)), (.int (Int32.ofNat n))]) (rest := []) (W := 0) (rm_cmp3W l Z a0 hw [] b kC cs n h0 n0 Z0 O0 VC hcap hcs hn hr UA UH UL) rfl (lenOf pd8 rfl) rfl (by rw [hml]; rfl) rfl (by show 2 * 0 + _ ≤ _; exact Nat.le_of_eq rfl) (by decide) (by decide) (by decide) (by decide) (hb hby d3_36) ?_
  intro v3 T3 h3 L3 X3 e3 q3
  obtain ⟨t, kt, cd, ys, hv3, Nf3, E3, ge3, He, V3⟩ := q3
  subst hv3
  have N3 := Fr.app N0 Nf3
  show Go p.tables e below _ T3 (mkF m 39 #[.val (.ref a1), .val (.ref b), .val (.int (0 : Int32)), .val (.int (Int32.ofNat n)), .val .null, .unset] [(.ref t)])
  refine Go.st (T' := T3) (g' := (mkF m 41 #[.val (.ref a1), .val (.ref b), .val (.int (0 : Int32)), .val (.int (Int32.ofNat n)), .val .null, .val (.ref t)] [])) (fun _ zk => XS.astore X3.here hx rfl (hb hby d3_39) rfl rfl (l' := #[.val (.ref a1), .val (.ref b), .val (.int (0 : Int32)), .val (.int (Int32.ofNat n)), .val .null, .val (.ref t)]) rfl zk) ?_
  refine Go.st (T' := T3) (g' := (mkF m 42 #[.val (.ref a1), .val (.ref b), .val (.int (0 : Int32)), .val (.int (Int32.ofNat n)), .val .null, .val (.ref t)] [(.ref a1)])) (fun _ zk => XS.aloadN X3.here hx rfl (hb hby d3_41) rfl rfl zk) ?_
  refine Go.st (T' := T3) (g' := (mkF m 44 #[.val (.ref a1), .val (.ref b), .val (.int (0 : Int32)), .val (.int (Int32.ofNat n)), .val .null, .val (.ref t)] [(.ref t), (.ref a1)])) (fun _ zk => XS.aload X3.here hx rfl (hb hby d3_42) rfl rfl zk) ?_
  refine Go.st (T' := T3) (g' := (mkF m 45 #[.val (.ref a1), .val (.ref b), .val (.int (0 : Int32)), .val (.int (Int32.ofNat n)), .val .null, .val (.ref t)] [(.int (Int32.ofNat n)), (.ref t), (.ref a1)])) (fun _ zk => XS.iloadN X3.here hx rfl (hb hby d3_44) rfl zk) ?_
  refine Go.callSt (y := (⟨"java/lang/StringUTF16", "coderFromArrayLen", "([BI)B"⟩ : MethodName)) X3 hx hZ hown e3 (w87 hw) (w88 hw) (w82 hw) (w89 hw) (by decide) (argsL := [(.ref t), (.int (Int32.ofNat n))]) (rest := [(.ref a1)]) (W := 1) (rm_codW l Z a0 hw [] t kt cs ys cd n h3 n0 (Nat.le_trans Z0 E3.1) V3 He h0n hn) rfl (lenOf pd10 rfl) rfl (by rw [hml]; rfl) rfl (by show 2 * 0 + _ ≤ _; exact Nat.le_of_eq rfl) (by decide) (by decide) (by decide) (by decide) (hb hby d3_45) ?_
  intro v4 T4 h4 L4 X4 e4 q4
  obtain ⟨hv4, Nf4, hh4⟩ := q4
  subst hv4
  have E4 : T4.heap = h3 := e4.trans hh4
  have N4 := Fr.app N3 Nf4
  show Go p.tables e below _ T4 (mkF m 48 #[.val (.ref a1), .val (.ref b), .val (.int (0 : Int32)), .val (.int (Int32.ofNat n)), .val .null, .val (.ref t)] [(.int cd), (.ref a1)])
  have xt6 : Ext h0 h3 := E3
  have f7 := C0.ext xt6
  have f8 := E0.ext xt6
  obtain ⟨T5, h5, X5, e5, W5, st5⟩ := putF X4 hx hZ hown (host := "") (Or.inl (w27 hw)) Via.refl E4 f7 f8 (Or.inr ⟨(w23 hw), rfl, hnm⟩) (w8 hw) (v := (.int cd)) (ty := .byte) (by decide) (own_narB He.cd) (own_fitB He.cd) (g := (mkF m 48 #[.val (.ref a1), .val (.ref b), .val (.int (0 : Int32)), .val (.int (Int32.ofNat n)), .val .null, .val (.ref t)] [(.int cd), (.ref a1)])) rfl rfl (hb hby d3_48)
  have F5 := f7.same W5
  have N5 := Fr.snoc X5 N4 g0
  refine Go.st (T' := T5) (g' := (mkF m 51 #[.val (.ref a1), .val (.ref b), .val (.int (0 : Int32)), .val (.int (Int32.ofNat n)), .val .null, .val (.ref t)] [])) (fun _ zk => st5 _ zk) ?_
  refine Go.st (T' := T5) (g' := (mkF m 52 #[.val (.ref a1), .val (.ref b), .val (.int (0 : Int32)), .val (.int (Int32.ofNat n)), .val .null, .val (.ref t)] [(.ref a1)])) (fun _ zk => XS.aloadN X5.here hx rfl (hb hby d3_51) rfl rfl zk) ?_
  refine Go.st (T' := T5) (g' := (mkF m 54 #[.val (.ref a1), .val (.ref b), .val (.int (0 : Int32)), .val (.int (Int32.ofNat n)), .val .null, .val (.ref t)] [(.ref t), (.ref a1)])) (fun _ zk => XS.aload X5.here hx rfl (hb hby d3_52) rfl rfl zk) ?_
  have f10 := ((V0.ext E3).other W5 (Or.inr (slot_ne (Or.inr (w22 hw)) (Or.inr (w23 hw)) (by decide) (t := (.array .byte)) (t' := .byte) (by decide) (by decide))))
  have f11 := (f8.wr W5)
  obtain ⟨T9, h9, X9, e9, W9, st9⟩ := putF X5 hx hZ hown (host := "") (Or.inl (w26 hw)) Via.refl e5 f10 f11 (Or.inr ⟨(w22 hw), rfl, hnm⟩) (w8 hw) (ty := (.array .byte)) (by decide) rfl rfl (g := (mkF m 54 #[.val (.ref a1), .val (.ref b), .val (.int (0 : Int32)), .val (.int (Int32.ofNat n)), .val .null, .val (.ref t)] [(.ref t), (.ref a1)])) rfl rfl (hb hby d3_54)
  have F9 := f10.same W9
  have N9 := Fr.snoc X9 N5 g0
  refine Go.st (T' := T9) (g' := (mkF m 57 #[.val (.ref a1), .val (.ref b), .val (.int (0 : Int32)), .val (.int (Int32.ofNat n)), .val .null, .val (.ref t)] [])) (fun _ zk => st9 _ zk) ?_
  have f12 := (f11.wr W9)
  have f13 := (F5.other W9 (Or.inr (slot_ne (Or.inr (w23 hw)) (Or.inr (w22 hw)) (by decide) (t := .byte) (t' := (.array .byte)) (by decide) (by decide))))
  have f14 := ((V3.other W5 (Ne.symm (ne_lt E0.lt (Nat.le_refl _) ge3))).other W9 (Ne.symm (ne_lt E0.lt (Nat.le_refl _) ge3)))
  refine Go.retV X9 hx hlk hret (hb hby d3_57) (by decide) (by decide) e9 ?_
  exact ⟨rfl, N9, ((((Keep.refl h0 [a1]).ext E3).wr W5 (Or.inl (List.mem_of_getElem? (i := 0) rfl))).wr W9 (Or.inl (List.mem_of_getElem? (i := 0) rfl))), cd, ys, He, t, kt, f12, f13, F9, f14⟩
theorem d2_0 : decode jdk_42_method_3_code 0 = .ok (.aload_n 0, 1) := by decide +kernel
theorem d2_1 : decode jdk_42_method_3_code 1 = .ok (.aload_n 1, 1) := by decide +kernel
theorem d2_2 : decode jdk_42_method_3_code 2 = .ok (.iconst 0, 1) := by decide +kernel
theorem d2_3 : decode jdk_42_method_3_code 3 = .ok (.aload_n 1, 1) := by decide +kernel
theorem d2_4 : decode jdk_42_method_3_code 4 = .ok (.arraylength, 1) := by decide +kernel
theorem d2_5 : decode jdk_42_method_3_code 5 = .ok (.aconst_null, 1) := by decide +kernel
theorem w16 {a0 : Array Value} {Z : State} (hw : ∀ d ∈ tables_1, d.before a0 Z = true) : ((Jvm.Cond.code ({ cls := "java/lang/String", name := "<init>", desc := "([CIILjava/lang/Void;)V" } : Jvm.MethodName) jdk_42_method_149_code (6 : Nat) (Option.none : Option Jvm.ClassFile.FieldType))).before a0 Z = true := hw _ (List.mem_of_getElem? (i := 16) rfl)
theorem w9 {a0 : Array Value} {Z : State} (hw : ∀ d ∈ tables_1, d.before a0 Z = true) : ((Jvm.Cond.initialized "java/lang/String")).before a0 Z = true := hw _ (List.mem_of_getElem? (i := 9) rfl)
theorem pd11 : parseMethodDescriptor "([CIILjava/lang/Void;)V" = some ⟨[(.array .char), .int, .int, (.object "java/lang/Void")], none⟩ := by decide +kernel
theorem d2_6 : decode jdk_42_method_3_code 6 = .ok (.invokespecial 27, 3) := by decide +kernel
theorem w13 {a0 : Array Value} {Z : State} (hw : ∀ d ∈ tables_1, d.before a0 Z = true) : ((Jvm.Cond.methodLink "java/lang/String" (27 : Nat) ({ cls := "java/lang/String", name := "<init>", desc := "([CIILjava/lang/Void;)V" } : Jvm.MethodName))).before a0 Z = true := hw _ (List.mem_of_getElem? (i := 13) rfl)
theorem w14 {a0 : Array Value} {Z : State} (hw : ∀ d ∈ tables_1, d.before a0 Z = true) : ((Jvm.Cond.instanceMethod ({ cls := "java/lang/String", name := "<init>", desc := "([CIILjava/lang/Void;)V" } : Jvm.MethodName))).before a0 Z = true := hw _ (List.mem_of_getElem? (i := 14) rfl)
theorem d2_9 : decode jdk_42_method_3_code 9 = .ok (.return_, 1) := by decide +kernel
def rr_init1W : Room := { frames := 5, cells := 2, slots := 30, locals := 74 }
set_option maxRecDepth 65536 in
set_option maxHeartbeats 40000000 in
theorem rm_init1W (l : Launch) (Z : State) (a0 : Array Value) (hw : ∀ d ∈ tables_1, d.before a0 Z = true) (ws : List Jvm.Cond) (a1 b : Addr) (kC : ClassId) (cs : List Int32) (n : Nat) (zc : Int32) (h0 : Heap) (n0 : Nat) (Z0 : n0 ≤ h0.size) (O0 : Old Z n0 h0) (E0 : Exa Z h0 a1 "java/lang/String") (g0 : n0 ≤ a1) (C0 : Fld Z h0 a1 "java/lang/String" "coder" "B" (.int (0 : Int32))) (V0 : Fld Z h0 a1 "java/lang/String" "value" "[B" .null) (VC : Arv Z h0 b kC .char (Int32.ofNat n) (cs.map Value.int) (.int (0 : Int32))) (hcap : n ≤ 10) (hcs : cs.length = n) (hn : n < 2 ^ 30) (h0n : 0 < n) (hr : ∀ c ∈ cs, 0 ≤ c.toInt ∧ c.toInt < 65536) (CS : Sta Z Z.heap "java/lang/String" "COMPACT_STRINGS" "Z" (.int zc)) (hz : ¬ zc = 0) (UA : Sta Z Z.heap "java/lang/StringUTF16" "$assertionsDisabled" "Z" (.int (1 : Int32))) (UH : Sta Z Z.heap "java/lang/StringUTF16" "HI_BYTE_SHIFT" "I" (.int (0 : Int32))) (UL : Sta Z Z.heap "java/lang/StringUTF16" "LO_BYTE_SHIFT" "I" (.int (8 : Int32))) :
    Con l Z (⟨"java/lang/String", "<init>", "([C)V"⟩ : MethodName) jdk_42_method_3_code 2 none ws rr_init1W #[(.ref a1), (.ref b)] h0 (fun v h L => v = none ∧ Fr n0 L ∧ Keep h0 h [a1] ∧ StrC Z h a1 n cs) := by
  refine Con.enter (plainFor_of_name pn2) ?_
  intro p e s m below meth c s₁ X0 hx hZ hby hml hret hlk hown hnm e0
  have N0 := Fr.nil n0
  refine Go.cast (g' := (mkF m 0 #[.val (.ref a1), .val (.ref b)] [])) (by first | rfl | (simp [entryFrame, mkF, argsToLocals, Value.category]; done)) ?_
  refine Go.st (T' := s₁) (g' := (mkF m 1 #[.val (.ref a1), .val (.ref b)] [(.ref a1)])) (fun _ zk => XS.aloadN X0.here hx rfl (hb hby d2_0) rfl rfl zk) ?_
  refine Go.st (T' := s₁) (g' := (mkF m 2 #[.val (.ref a1), .val (.ref b)] [(.ref b), (.ref a1)])) (fun _ zk => XS.aloadN X0.here hx rfl (hb hby d2_1) rfl rfl zk) ?_
  refine Go.st (T' := s₁) (g' := (mkF m 3 #[.val (.ref a1), .val (.ref b)] [(.int (0 : Int32)), (.ref b), (.ref a1)])) (fun _ zk => XS.iconst X0.here hx rfl (hb hby d2_2) zk) ?_
  refine Go.st (T' := s₁) (g' := (mkF m 4 #[.val (.ref a1), .val (.ref b)] [(.ref b), (.int (0 : Int32)), (.ref b), (.ref a1)])) (fun _ zk => XS.aloadN X0.here hx rfl (hb hby d2_3) rfl rfl zk) ?_
  refine Go.st (T' := s₁) (g' := (mkF m 5 #[.val (.ref a1), .val (.ref b)] [(.int (Int32.ofNat n)), (.int (0 : Int32)), (.ref b), (.ref a1)])) (fun _ zk => lenV X0 hx hZ e0 VC (g := (mkF m 4 #[.val (.ref a1), .val (.ref b)] [(.ref b), (.int (0 : Int32)), (.ref b), (.ref a1)])) rfl (rest := [(.int (0 : Int32)), (.ref b), (.ref a1)]) rfl (hb hby d2_4) zk) ?_
  refine Go.st (T' := s₁) (g' := (mkF m 6 #[.val (.ref a1), .val (.ref b)] [.null, (.int (Int32.ofNat n)), (.int (0 : Int32)), (.ref b), (.ref a1)])) (fun _ zk => XS.aconstNull X0.here hx rfl (hb hby d2_5) zk) ?_
  refine Go.callSp (y := (⟨"java/lang/String", "<init>", "([CIILjava/lang/Void;)V"⟩ : MethodName)) (a := a1) X0 hx hZ hown e0 rfl (w13 hw) (w14 hw) (w9 hw) (w16 hw) (by decide) (argsL := [(.ref b), (.int (0 : Int32)), (.int (Int32.ofNat n)), .null]) (rest := []) (W := 0) (rm_init4W l Z a0 hw [] a1 b kC cs n zc h0 n0 Z0 O0 E0 g0 C0 V0 VC hcap hcs hn h0n hr CS hz UA UH UL) rfl (lenOf pd11 rfl) rfl (by rw [hml]; rfl) rfl (by show 2 * 0 + _ ≤ _; exact Nat.le_of_eq rfl) (by decide) (by decide) (by decide) (by decide) (hb hby d2_6) ?_
  intro v1 T1 h1 L1 X1 e1 q1
  obtain ⟨hv1, Nf1, K1, SC⟩ := q1
  subst hv1
  have N1 := Fr.app N0 Nf1
  show Go p.tables e below _ T1 (mkF m 9 #[.val (.ref a1), .val (.ref b)] [])
  refine Go.retV X1 hx hlk hret (hb hby d2_9) (by decide) (by decide) e1 ?_
  exact ⟨rfl, N1, ((Keep.refl h0 [a1]).trans K1 (allS (P := fun x => x ∈ [a1] ∨ h0.size ≤ x) (Or.inl (List.mem_of_getElem? (i := 0) rfl)) all0)), SC⟩
theorem d10_0 : decode jdk_42_method_152_code 0 = .ok (.getstatic 38, 3) := by decide +kernel
theorem d10_3 : decode jdk_42_method_152_code 3 = .ok (.ifCond .eq 10, 3) := by decide +kernel
theorem d10_6 : decode jdk_42_method_152_code 6 = .ok (.aload_n 0, 1) := by decide +kernel
theorem d10_7 : decode jdk_42_method_152_code 7 = .ok (.getfield 15, 3) := by decide +kernel
theorem d10_10 : decode jdk_42_method_152_code 10 = .ok (.goto 4, 3) := by decide +kernel
theorem d10_14 : decode jdk_42_method_152_code 14 = .ok (.ireturn, 1) := by decide +kernel
def rr_coderG : Room := { frames := 0, cells := 0, slots := 0, locals := 0 }
set_option maxRecDepth 65536 in
set_option maxHeartbeats 40000000 in
theorem rm_coderG (l : Launch) (Z : State) (a0 : Array Value) (hw : ∀ d ∈ tables_1, d.before a0 Z = true) (ws : List Jvm.Cond) (a1 : Addr) (cd zc : Int32) (h0 : Heap) (n0 : Nat) (Z0 : n0 ≤ h0.size) (O0 : Old Z n0 h0) (F0 : Fld Z h0 a1 "java/lang/String" "coder" "B" (.int cd)) (hcd : cd = 0 ∨ cd = 1) (CS : Sta Z Z.heap "java/lang/String" "COMPACT_STRINGS" "Z" (.int zc)) (hz : ¬ zc = 0) :
    Con l Z (⟨"java/lang/String", "coder", "()B"⟩ : MethodName) jdk_42_method_152_code 1 (some .byte) ws rr_coderG #[(.ref a1)] h0 (fun v h L => v = some (.int cd) ∧ Fr n0 L ∧ h = h0) := by
  refine Con.enter (plainFor_of_name pn2) ?_
  intro p e s m below meth c s₁ X0 hx hZ hby hml hret hlk hown hnm e0
  have N0 := Fr.nil n0
  refine Go.cast (g' := (mkF m 0 #[.val (.ref a1)] [])) (by first | rfl | (simp [entryFrame, mkF, argsToLocals, Value.category]; done)) ?_
  obtain ⟨T1, X1, e1, st1⟩ := getS2 X0 hx hZ hown (host := "") (Or.inl (w35 hw)) Via.refl e0 (CS.ext O0.2) (g := (mkF m 0 #[.val (.ref a1)] [])) rfl (hb hby d10_0)
  refine Go.st (T' := T1) (g' := (mkF m 3 #[.val (.ref a1)] [(.int zc)])) (fun _ zk => st1 _ zk) ?_
  refine Go.st (T' := T1) (g' := (mkF m 6 #[.val (.ref a1)] [])) (fun _ zk => XS.ifNo X1.here hx rfl (hb hby d10_3) rfl ((if0 _ _).trans (feq (hz : ¬ (zc = (0 : Int32)))).1) zk) ?_
  refine Go.st (T' := T1) (g' := (mkF m 7 #[.val (.ref a1)] [(.ref a1)])) (fun _ zk => XS.aloadN X1.here hx rfl (hb hby d10_6) rfl rfl zk) ?_
  obtain ⟨T2, X2, e2, st2⟩ := getF X1 hx hZ hown (host := "") (Or.inl (w27 hw)) Via.refl e1 F0 (g := (mkF m 7 #[.val (.ref a1)] [(.ref a1)])) rfl rfl (hb hby d10_7)
  refine Go.st (T' := T2) (g' := (mkF m 10 #[.val (.ref a1)] [(.int cd)])) (fun _ zk => st2 _ zk) ?_
  refine Go.st (T' := T2) (g' := (mkF m 14 #[.val (.ref a1)] [(.int cd)])) (fun _ zk => XS.goto X2.here hx rfl (pc0 := 10) (pc' := 14) rfl (hb hby d10_10) (by decide) (by decide) zk) ?_
  refine Go.retN X2 hx hlk hret (by rcases hcd with rfl | rfl <;> rfl) (by simp) (hb hby d10_14) (by decide) (by decide) e2 ?_
  exact ⟨rfl, N0, rfl⟩
theorem d9_0 : decode jdk_42_method_54_code 0 = .ok (.aload_n 0, 1) := by decide +kernel
theorem d9_1 : decode jdk_42_method_54_code 1 = .ok (.getfield 9, 3) := by decide +kernel
theorem d9_4 : decode jdk_42_method_54_code 4 = .ok (.arraylength, 1) := by decide +kernel
theorem d9_5 : decode jdk_42_method_54_code 5 = .ok (.aload_n 0, 1) := by decide +kernel
theorem w76 {a0 : Array Value} {Z : State} (hw : ∀ d ∈ tables_1, d.before a0 Z = true) : ((Jvm.Cond.code ({ cls := "java/lang/String", name := "coder", desc := "()B" } : Jvm.MethodName) jdk_42_method_152_code (1 : Nat) (Option.some Jvm.ClassFile.FieldType.byte))).before a0 Z = true := hw _ (List.mem_of_getElem? (i := 76) rfl)
theorem pd12 : parseMethodDescriptor "()B" = some ⟨[], some .byte⟩ := by decide +kernel
theorem d9_6 : decode jdk_42_method_54_code 6 = .ok (.invokevirtual 335, 3) := by decide +kernel
theorem w75 {a0 : Array Value} {Z : State} (hw : ∀ d ∈ tables_1, d.before a0 Z = true) : ((Jvm.Cond.selects "java/lang/String" ({ cls := "java/lang/String", name := "coder", desc := "()B" } : Jvm.MethodName) ({ cls := "java/lang/String", name := "coder", desc := "()B" } : Jvm.MethodName))).before a0 Z = true := hw _ (List.mem_of_getElem? (i := 75) rfl)
theorem w74 {a0 : Array Value} {Z : State} (hw : ∀ d ∈ tables_1, d.before a0 Z = true) : ((Jvm.Cond.instanceMethod ({ cls := "java/lang/String", name := "coder", desc := "()B" } : Jvm.MethodName))).before a0 Z = true := hw _ (List.mem_of_getElem? (i := 74) rfl)
theorem w72 {a0 : Array Value} {Z : State} (hw : ∀ d ∈ tables_1, d.before a0 Z = true) : ((Jvm.Cond.methodLink "java/lang/String" (335 : Nat) ({ cls := "java/lang/String", name := "coder", desc := "()B" } : Jvm.MethodName))).before a0 Z = true := hw _ (List.mem_of_getElem? (i := 72) rfl)
theorem w73 {a0 : Array Value} {Z : State} (hw : ∀ d ∈ tables_1, d.before a0 Z = true) : ((Jvm.Cond.declares ({ cls := "java/lang/String", name := "coder", desc := "()B" } : Jvm.MethodName))).before a0 Z = true := hw _ (List.mem_of_getElem? (i := 73) rfl)
theorem d9_9 : decode jdk_42_method_54_code 9 = .ok (.ishr, 1) := by decide +kernel
theorem d9_10 : decode jdk_42_method_54_code 10 = .ok (.ireturn, 1) := by decide +kernel
def rr_lengthW : Room := { frames := 1, cells := 0, slots := 0, locals := 13 }
set_option maxRecDepth 65536 in
set_option maxHeartbeats 40000000 in
theorem rm_lengthW (l : Launch) (Z : State) (a0 : Array Value) (hw : ∀ d ∈ tables_1, d.before a0 Z = true) (ws : List Jvm.Cond) (a1 : Addr) (cs : List Int32) (n : Nat) (zc : Int32) (h0 : Heap) (n0 : Nat) (Z0 : n0 ≤ h0.size) (O0 : Old Z n0 h0) (SC : StrC Z h0 a1 n cs) (hn : n < 2 ^ 30) (CS : Sta Z Z.heap "java/lang/String" "COMPACT_STRINGS" "Z" (.int zc)) (hz : ¬ zc = 0) :
    Con l Z (⟨"java/lang/String", "length", "()I"⟩ : MethodName) jdk_42_method_54_code 1 (some .int) ws rr_lengthW #[(.ref a1)] h0 (fun v h L => v = some (.int (Int32.ofNat n)) ∧ Fr n0 L ∧ h = h0) := by
  refine Con.enter (plainFor_of_name pn2) ?_
  intro p e s m below meth c s₁ X0 hx hZ hby hml hret hlk hown hnm e0
  have N0 := Fr.nil n0
  refine Go.cast (g' := (mkF m 0 #[.val (.ref a1)] [])) (by first | rfl | (simp [entryFrame, mkF, argsToLocals, Value.category]; done)) ?_
  obtain ⟨cd, xs, He, S1⟩ := SC
  obtain ⟨t1, k1, E_a1, C_a1, F_a1, V_a1⟩ := S1
  refine Go.st (T' := s₁) (g' := (mkF m 1 #[.val (.ref a1)] [(.ref a1)])) (fun _ zk => XS.aloadN X0.here hx rfl (hb hby d9_0) rfl rfl zk) ?_
  obtain ⟨T1, X1, e1, st1⟩ := getF X0 hx hZ hown (host := "") (Or.inl (w26 hw)) Via.refl e0 F_a1 (g := (mkF m 1 #[.val (.ref a1)] [(.ref a1)])) rfl rfl (hb hby d9_1)
  refine Go.st (T' := T1) (g' := (mkF m 4 #[.val (.ref a1)] [(.ref t1)])) (fun _ zk => st1 _ zk) ?_
  refine Go.st (T' := T1) (g' := (mkF m 5 #[.val (.ref a1)] [(.int (Int32.ofNat xs.length))])) (fun _ zk => lenV X1 hx hZ e1 V_a1 (g := (mkF m 4 #[.val (.ref a1)] [(.ref t1)])) rfl (rest := []) rfl (hb hby d9_4) zk) ?_
  refine Go.st (T' := T1) (g' := (mkF m 6 #[.val (.ref a1)] [(.ref a1), (.int (Int32.ofNat xs.length))])) (fun _ zk => XS.aloadN X1.here hx rfl (hb hby d9_5) rfl rfl zk) ?_
  refine Go.callV (y := (⟨"java/lang/String", "coder", "()B"⟩ : MethodName)) (z := (⟨"java/lang/String", "coder", "()B"⟩ : MethodName)) (C := "java/lang/String") (a := a1) X1 hx hZ hown e1 (w72 hw) (w73 hw) (w75 hw) (w74 hw) (w9 hw) (w76 hw) (notFace_of_selects (args := #[]) (mvT hZ (w75 hw))) (by decide) E_a1 (argsL := []) (rest := [(.int (Int32.ofNat xs.length))]) (W := 1) (rm_coderG l Z a0 hw [] a1 cd zc h0 n0 Z0 O0 C_a1 He.cd CS hz) rfl (lenOf pd12 rfl) rfl (by rw [hml]; rfl) rfl (by show 2 * 0 + _ ≤ _; exact Nat.le_of_eq rfl) (by decide) (by decide) (by decide) (by decide) (hb hby d9_6) ?_
  intro v2 T2 h2 L2 X2 e2 q2
  obtain ⟨hv2, Nf2, hh2⟩ := q2
  subst hv2
  have E2 : T2.heap = h0 := e2.trans hh2
  have N2 := Fr.app N0 Nf2
  show Go p.tables e below _ T2 (mkF m 9 #[.val (.ref a1)] [(.int cd), (.int (Int32.ofNat xs.length))])
  refine Go.st (T' := T2) (g' := (mkF m 10 #[.val (.ref a1)] [(.int ((Int32.ofNat xs.length) >>> (cd &&& 31)))])) (fun _ zk => XS.ishr X2.here hx rfl (hb hby d9_9) rfl zk) ?_
  refine Go.retN X2 hx hlk hret rfl (by simp) (hb hby d9_10) (by decide) (by decide) E2 ?_
  rw [own_lenC He hn]
  exact ⟨rfl, N2, rfl⟩
theorem d16_0 : decode jdk_42_method_154_code 0 = .ok (.getstatic 38, 3) := by decide +kernel
theorem d16_3 : decode jdk_42_method_154_code 3 = .ok (.ifCond .eq 14, 3) := by decide +kernel
theorem d16_6 : decode jdk_42_method_154_code 6 = .ok (.aload_n 0, 1) := by decide +kernel
theorem d16_7 : decode jdk_42_method_154_code 7 = .ok (.getfield 15, 3) := by decide +kernel
theorem d16_10 : decode jdk_42_method_154_code 10 = .ok (.ifCond .ne 7, 3) := by decide +kernel
theorem d16_13 : decode jdk_42_method_154_code 13 = .ok (.iconst 1, 1) := by decide +kernel
theorem d16_14 : decode jdk_42_method_154_code 14 = .ok (.goto 4, 3) := by decide +kernel
theorem d16_18 : decode jdk_42_method_154_code 18 = .ok (.ireturn, 1) := by decide +kernel
def rr_isLatin1G : Room := { frames := 0, cells := 0, slots := 0, locals := 0 }
set_option maxRecDepth 65536 in
set_option maxHeartbeats 40000000 in
theorem rm_isLatin1G (l : Launch) (Z : State) (a0 : Array Value) (hw : ∀ d ∈ tables_1, d.before a0 Z = true) (ws : List Jvm.Cond) (a1 : Addr) (zc : Int32) (h0 : Heap) (n0 : Nat) (Z0 : n0 ≤ h0.size) (O0 : Old Z n0 h0) (F0 : Fld Z h0 a1 "java/lang/String" "coder" "B" (.int (0 : Int32))) (CS : Sta Z Z.heap "java/lang/String" "COMPACT_STRINGS" "Z" (.int zc)) (hz : ¬ zc = 0) :
    Con l Z (⟨"java/lang/String", "isLatin1", "()Z"⟩ : MethodName) jdk_42_method_154_code 1 (some .boolean) ws rr_isLatin1G #[(.ref a1)] h0 (fun v h L => v = some (.int 1) ∧ Fr n0 L ∧ h = h0) := by
  refine Con.enter (plainFor_of_name pn2) ?_
  intro p e s m below meth c s₁ X0 hx hZ hby hml hret hlk hown hnm e0
  have N0 := Fr.nil n0
  refine Go.cast (g' := (mkF m 0 #[.val (.ref a1)] [])) (by first | rfl | (simp [entryFrame, mkF, argsToLocals, Value.category]; done)) ?_
  obtain ⟨T1, X1, e1, st1⟩ := getS2 X0 hx hZ hown (host := "") (Or.inl (w35 hw)) Via.refl e0 (CS.ext O0.2) (g := (mkF m 0 #[.val (.ref a1)] [])) rfl (hb hby d16_0)
  refine Go.st (T' := T1) (g' := (mkF m 3 #[.val (.ref a1)] [(.int zc)])) (fun _ zk => st1 _ zk) ?_
  refine Go.st (T' := T1) (g' := (mkF m 6 #[.val (.ref a1)] [])) (fun _ zk => XS.ifNo X1.here hx rfl (hb hby d16_3) rfl ((if0 _ _).trans (feq (hz : ¬ (zc = (0 : Int32)))).1) zk) ?_
  refine Go.st (T' := T1) (g' := (mkF m 7 #[.val (.ref a1)] [(.ref a1)])) (fun _ zk => XS.aloadN X1.here hx rfl (hb hby d16_6) rfl rfl zk) ?_
  obtain ⟨T2, X2, e2, st2⟩ := getF X1 hx hZ hown (host := "") (Or.inl (w27 hw)) Via.refl e1 F0 (g := (mkF m 7 #[.val (.ref a1)] [(.ref a1)])) rfl rfl (hb hby d16_7)
  refine Go.st (T' := T2) (g' := (mkF m 10 #[.val (.ref a1)] [(.int (0 : Int32))])) (fun _ zk => st2 _ zk) ?_
  refine Go.st (T' := T2) (g' := (mkF m 13 #[.val (.ref a1)] [])) (fun _ zk => XS.ifNo X2.here hx rfl (hb hby d16_10) rfl ((if0 _ _).trans (teq (rfl : (0 : Int32) = (0 : Int32))).2) zk) ?_
  refine Go.st (T' := T2) (g' := (mkF m 14 #[.val (.ref a1)] [(.int (1 : Int32))])) (fun _ zk => XS.iconst X2.here hx rfl (hb hby d16_13) zk) ?_
  refine Go.st (T' := T2) (g' := (mkF m 18 #[.val (.ref a1)] [(.int (1 : Int32))])) (fun _ zk => XS.goto X2.here hx rfl (pc0 := 14) (pc' := 18) rfl (hb hby d16_14) (by decide) (by decide) zk) ?_
  refine Go.retN X2 hx hlk hret rfl (by simp) (hb hby d16_18) (by decide) (by decide) e2 ?_
  exact ⟨rfl, N0, rfl⟩
theorem d19_0 : decode jdk_41_method_11_code 0 = .ok (.iload_n 0, 1) := by decide +kernel
theorem d19_1 : decode jdk_41_method_11_code 1 = .ok (.ifCond .lt 8, 3) := by decide +kernel
theorem d19_4 : decode jdk_41_method_11_code 4 = .ok (.iload_n 0, 1) := by decide +kernel
theorem d19_5 : decode jdk_41_method_11_code 5 = .ok (.iload_n 1, 1) := by decide +kernel
theorem d19_6 : decode jdk_41_method_11_code 6 = .ok (.if_icmp .lt 10, 3) := by decide +kernel
theorem d19_16 : decode jdk_41_method_11_code 16 = .ok (.iload_n 0, 1) := by decide +kernel
theorem d19_17 : decode jdk_41_method_11_code 17 = .ok (.ireturn, 1) := by decide +kernel
def rr_preIdx : Room := { frames := 0, cells := 0, slots := 0, locals := 0 }
theorem pn13 : plainName "jdk/internal/util/Preconditions" = true := by first | (simp [plainName, overriddenIn]; done) | decide +kernel
set_option maxRecDepth 65536 in
set_option maxHeartbeats 40000000 in
theorem rm_preIdx (l : Launch) (Z : State) (a0 : Array Value) (hw : ∀ d ∈ tables_1, d.before a0 Z = true) (ws : List Jvm.Cond) (j n : Int32) (fm : Value) (h0 : Heap) (n0 : Nat) (Z0 : n0 ≤ h0.size) (rf : fm.isRef = true) (h1 : ¬ j < 0) (h2 : j < n) :
    Con l Z (⟨"jdk/internal/util/Preconditions", "checkIndex", "(IILjava/util/function/BiFunction;)I"⟩ : MethodName) jdk_41_method_11_code 3 (some .int) ws rr_preIdx #[(.int j), (.int n), fm] h0 (fun v h L => v = some (.int j) ∧ Fr n0 L ∧ h = h0) := by
  refine Con.enter (plainFor_of_name pn13) ?_
  intro p e s m below meth c s₁ X0 hx hZ hby hml hret hlk hown hnm e0
  have N0 := Fr.nil n0
  refine Go.cast (g' := (mkF m 0 #[.val (.int j), .val (.int n), .val fm] [])) (by rcases ref_cases rf with rfl | ⟨_, rfl⟩ <;> first | rfl | (simp [entryFrame, mkF, argsToLocals, Value.category]; done)) ?_
  refine Go.st (T' := s₁) (g' := (mkF m 1 #[.val (.int j), .val (.int n), .val fm] [(.int j)])) (fun _ zk => XS.iloadN X0.here hx rfl (hb hby d19_0) rfl zk) ?_
  refine Go.st (T' := s₁) (g' := (mkF m 4 #[.val (.int j), .val (.int n), .val fm] [])) (fun _ zk => XS.ifNo X0.here hx rfl (hb hby d19_1) rfl ((if0 _ _).trans (flt (h1 : ¬ (j < (0 : Int32)))).1) zk) ?_
  refine Go.st (T' := s₁) (g' := (mkF m 5 #[.val (.int j), .val (.int n), .val fm] [(.int j)])) (fun _ zk => XS.iloadN X0.here hx rfl (hb hby d19_4) rfl zk) ?_
  refine Go.st (T' := s₁) (g' := (mkF m 6 #[.val (.int j), .val (.int n), .val fm] [(.int n), (.int j)])) (fun _ zk => XS.iloadN X0.here hx rfl (hb hby d19_5) rfl zk) ?_
  refine Go.st (T' := s₁) (g' := (mkF m 16 #[.val (.int j), .val (.int n), .val fm] [])) (fun _ zk => XS.icmpYes X0.here hx rfl (pc0 := 6) (pc' := 16) rfl (hb hby d19_6) rfl (tlt (h2 : j < n)).1 (by decide) (by decide) zk) ?_
  refine Go.st (T' := s₁) (g' := (mkF m 17 #[.val (.int j), .val (.int n), .val fm] [(.int j)])) (fun _ zk => XS.iloadN X0.here hx rfl (hb hby d19_16) rfl zk) ?_
  refine Go.retN X0 hx hlk hret rfl (by simp) (hb hby d19_17) (by decide) (by decide) e0 ?_
  exact ⟨rfl, N0, rfl⟩
theorem d18_0 : decode jdk_42_method_155_code 0 = .ok (.iload_n 0, 1) := by decide +kernel
theorem d18_1 : decode jdk_42_method_155_code 1 = .ok (.iload_n 1, 1) := by decide +kernel
theorem d18_2 : decode jdk_42_method_155_code 2 = .ok (.getstatic 1053, 3) := by decide +kernel
theorem w107 {a0 : Array Value} {Z : State} (hw : ∀ d ∈ tables_1, d.before a0 Z = true) : ((Jvm.Cond.fieldLink "java/lang/String" (1053 : Nat) "jdk/internal/util/Preconditions" "SIOOBE_FORMATTER" "Ljava/util/function/BiFunction;")).before a0 Z = true := hw _ (List.mem_of_getElem? (i := 107) rfl)
theorem w111 {a0 : Array Value} {Z : State} (hw : ∀ d ∈ tables_1, d.before a0 Z = true) : ((Jvm.Cond.code ({ cls := "jdk/internal/util/Preconditions", name := "checkIndex", desc := "(IILjava/util/function/BiFunction;)I" } : Jvm.MethodName) jdk_41_method_11_code (3 : Nat) (Option.some Jvm.ClassFile.FieldType.int))).before a0 Z = true := hw _ (List.mem_of_getElem? (i := 111) rfl)
theorem w108 {a0 : Array Value} {Z : State} (hw : ∀ d ∈ tables_1, d.before a0 Z = true) : ((Jvm.Cond.initialized "jdk/internal/util/Preconditions")).before a0 Z = true := hw _ (List.mem_of_getElem? (i := 108) rfl)
theorem pd14 : parseMethodDescriptor "(IILjava/util/function/BiFunction;)I" = some ⟨[.int, .int, (.object "java/util/function/BiFunction")], some .int⟩ := by decide +kernel
theorem d18_5 : decode jdk_42_method_155_code 5 = .ok (.invokestatic 1059, 3) := by decide +kernel
theorem w109 {a0 : Array Value} {Z : State} (hw : ∀ d ∈ tables_1, d.before a0 Z = true) : ((Jvm.Cond.methodLink "java/lang/String" (1059 : Nat) ({ cls := "jdk/internal/util/Preconditions", name := "checkIndex", desc := "(IILjava/util/function/BiFunction;)I" } : Jvm.MethodName))).before a0 Z = true := hw _ (List.mem_of_getElem? (i := 109) rfl)
theorem w110 {a0 : Array Value} {Z : State} (hw : ∀ d ∈ tables_1, d.before a0 Z = true) : ((Jvm.Cond.static ({ cls := "jdk/internal/util/Preconditions", name := "checkIndex", desc := "(IILjava/util/function/BiFunction;)I" } : Jvm.MethodName))).before a0 Z = true := hw _ (List.mem_of_getElem? (i := 110) rfl)
theorem d18_8 : decode jdk_42_method_155_code 8 = .ok (.pop, 1) := by decide +kernel
theorem d18_9 : decode jdk_42_method_155_code 9 = .ok (.return_, 1) := by decide +kernel
def rr_strIdx : Room := { frames := 1, cells := 0, slots := 0, locals := 14 }
set_option maxRecDepth 65536 in
set_option maxHeartbeats 40000000 in
theorem rm_strIdx (l : Launch) (Z : State) (a0 : Array Value) (hw : ∀ d ∈ tables_1, d.before a0 Z = true) (ws : List Jvm.Cond) (j n : Int32) (fm : Value) (h0 : Heap) (n0 : Nat) (Z0 : n0 ≤ h0.size) (O0 : Old Z n0 h0) (FM : Sta Z Z.heap "jdk/internal/util/Preconditions" "SIOOBE_FORMATTER" "Ljava/util/function/BiFunction;" fm) (rf : fm.isRef = true) (h1 : ¬ j < 0) (h2 : j < n) :
    Con l Z (⟨"java/lang/String", "checkIndex", "(II)V"⟩ : MethodName) jdk_42_method_155_code 2 none ws rr_strIdx #[(.int j), (.int n)] h0 (fun v h L => v = none ∧ Fr n0 L ∧ h = h0) := by
  refine Con.enter (plainFor_of_name pn2) ?_
  intro p e s m below meth c s₁ X0 hx hZ hby hml hret hlk hown hnm e0
  have N0 := Fr.nil n0
  refine Go.cast (g' := (mkF m 0 #[.val (.int j), .val (.int n)] [])) (by first | rfl | (simp [entryFrame, mkF, argsToLocals, Value.category]; done)) ?_
  refine Go.st (T' := s₁) (g' := (mkF m 1 #[.val (.int j), .val (.int n)] [(.int j)])) (fun _ zk => XS.iloadN X0.here hx rfl (hb hby d18_0) rfl zk) ?_
  refine Go.st (T' := s₁) (g' := (mkF m 2 #[.val (.int j), .val (.int n)] [(.int n), (.int j)])) (fun _ zk => XS.iloadN X0.here hx rfl (hb hby d18_1) rfl zk) ?_
  obtain ⟨T1, X1, e1, st1⟩ := getS2 X0 hx hZ hown (host := "") (Or.inl (w107 hw)) Via.refl e0 (FM.ext O0.2) (g := (mkF m 2 #[.val (.int j), .val (.int n)] [(.int n), (.int j)])) rfl (hb hby d18_2)
  refine Go.st (T' := T1) (g' := (mkF m 5 #[.val (.int j), .val (.int n)] [fm, (.int n), (.int j)])) (fun _ zk => st1 _ zk) ?_
  refine Go.callSt (y := (⟨"jdk/internal/util/Preconditions", "checkIndex", "(IILjava/util/function/BiFunction;)I"⟩ : MethodName)) X1 hx hZ hown e1 (w109 hw) (w110 hw) (w108 hw) (w111 hw) (by decide) (argsL := [(.int j), (.int n), fm]) (rest := []) (W := 0) (rm_preIdx l Z a0 hw [] j n fm h0 n0 Z0 rf h1 h2) rfl (lenOf pd14 rfl) rfl (by rw [hml]; rfl) rfl (by show 2 * 0 + _ ≤ _; exact Nat.le_of_eq rfl) (by decide) (by decide) (by decide) (by decide) (hb hby d18_5) ?_
  intro v2 T2 h2 L2 X2 e2 q2
  obtain ⟨hv2, Nf2, hh2⟩ := q2
  subst hv2
  have E2 : T2.heap = h0 := e2.trans hh2
  have N2 := Fr.app N0 Nf2
  show Go p.tables e below _ T2 (mkF m 8 #[.val (.int j), .val (.int n)] [(.int j)])
  refine Go.st (T' := T2) (g' := (mkF m 9 #[.val (.int j), .val (.int n)] [])) (fun _ zk => XS.pop X2.here hx rfl (hb hby d18_8) rfl rfl zk) ?_
  refine Go.retV X2 hx hlk hret (hb hby d18_9) (by decide) (by decide) E2 ?_
  exact ⟨rfl, N2, rfl⟩
theorem d17_0 : decode jdk_43_method_2_code 0 = .ok (.iload_n 1, 1) := by decide +kernel
theorem d17_1 : decode jdk_43_method_2_code 1 = .ok (.aload_n 0, 1) := by decide +kernel
theorem d17_2 : decode jdk_43_method_2_code 2 = .ok (.arraylength, 1) := by decide +kernel
theorem w106 {a0 : Array Value} {Z : State} (hw : ∀ d ∈ tables_1, d.before a0 Z = true) : ((Jvm.Cond.code ({ cls := "java/lang/String", name := "checkIndex", desc := "(II)V" } : Jvm.MethodName) jdk_42_method_155_code (2 : Nat) (Option.none : Option Jvm.ClassFile.FieldType))).before a0 Z = true := hw _ (List.mem_of_getElem? (i := 106) rfl)
theorem pd15 : parseMethodDescriptor "(II)V" = some ⟨[.int, .int], none⟩ := by decide +kernel
theorem d17_3 : decode jdk_43_method_2_code 3 = .ok (.invokestatic 9, 3) := by decide +kernel
theorem w104 {a0 : Array Value} {Z : State} (hw : ∀ d ∈ tables_1, d.before a0 Z = true) : ((Jvm.Cond.methodLink "java/lang/StringLatin1" (9 : Nat) ({ cls := "java/lang/String", name := "checkIndex", desc := "(II)V" } : Jvm.MethodName))).before a0 Z = true := hw _ (List.mem_of_getElem? (i := 104) rfl)
theorem w105 {a0 : Array Value} {Z : State} (hw : ∀ d ∈ tables_1, d.before a0 Z = true) : ((Jvm.Cond.static ({ cls := "java/lang/String", name := "checkIndex", desc := "(II)V" } : Jvm.MethodName))).before a0 Z = true := hw _ (List.mem_of_getElem? (i := 105) rfl)
theorem d17_6 : decode jdk_43_method_2_code 6 = .ok (.aload_n 0, 1) := by decide +kernel
theorem d17_7 : decode jdk_43_method_2_code 7 = .ok (.iload_n 1, 1) := by decide +kernel
theorem d17_8 : decode jdk_43_method_2_code 8 = .ok (.baload, 1) := by decide +kernel
theorem d17_9 : decode jdk_43_method_2_code 9 = .ok (.sipush 255, 3) := by decide +kernel
theorem d17_12 : decode jdk_43_method_2_code 12 = .ok (.iand, 1) := by decide +kernel
theorem d17_13 : decode jdk_43_method_2_code 13 = .ok (.i2c, 1) := by decide +kernel
theorem d17_14 : decode jdk_43_method_2_code 14 = .ok (.ireturn, 1) := by decide +kernel
def rr_latinAt : Room := { frames := 2, cells := 0, slots := 0, locals := 27 }
set_option maxRecDepth 65536 in
set_option maxHeartbeats 40000000 in
theorem rm_latinAt (l : Launch) (Z : State) (a0 : Array Value) (hw : ∀ d ∈ tables_1, d.before a0 Z = true) (ws : List Jvm.Cond) (t1 : Addr) (k1 : ClassId) (bs : List Int32) (i : Nat) (fm : Value) (h0 : Heap) (n0 : Nat) (Z0 : n0 ≤ h0.size) (O0 : Old Z n0 h0) (V1 : Arv Z h0 t1 k1 .byte (Int32.ofNat bs.length) (bs.map Value.int) (.int (0 : Int32))) (lb : bs.length < 2 ^ 31) (hi : i < bs.length) (FM : Sta Z Z.heap "jdk/internal/util/Preconditions" "SIOOBE_FORMATTER" "Ljava/util/function/BiFunction;" fm) (rf : fm.isRef = true) :
    Con l Z (⟨"java/lang/StringLatin1", "charAt", "([BI)C"⟩ : MethodName) jdk_43_method_2_code 2 (some .char) ws rr_latinAt #[(.ref t1), (.int (Int32.ofNat i))] h0 (fun v h L => v = some (.int (((bs.getD i 0) &&& (255 : Int32)).toUInt32.toUInt16.toUInt32.toInt32)) ∧ Fr n0 L ∧ h = h0) := by
  refine Con.enter (plainFor_of_name pn0) ?_
  intro p e s m below meth c s₁ X0 hx hZ hby hml hret hlk hown hnm e0
  have N0 := Fr.nil n0
  refine Go.cast (g' := (mkF m 0 #[.val (.ref t1), .val (.int (Int32.ofNat i))] [])) (by first | rfl | (simp [entryFrame, mkF, argsToLocals, Value.category]; done)) ?_
  refine Go.st (T' := s₁) (g' := (mkF m 1 #[.val (.ref t1), .val (.int (Int32.ofNat i))] [(.int (Int32.ofNat i))])) (fun _ zk => XS.iloadN X0.here hx rfl (hb hby d17_0) rfl zk) ?_
  refine Go.st (T' := s₁) (g' := (mkF m 2 #[.val (.ref t1), .val (.int (Int32.ofNat i))] [(.ref t1), (.int (Int32.ofNat i))])) (fun _ zk => XS.aloadN X0.here hx rfl (hb hby d17_1) rfl rfl zk) ?_
  refine Go.st (T' := s₁) (g' := (mkF m 3 #[.val (.ref t1), .val (.int (Int32.ofNat i))] [(.int (Int32.ofNat bs.length)), (.int (Int32.ofNat i))])) (fun _ zk => lenV X0 hx hZ e0 V1 (g := (mkF m 2 #[.val (.ref t1), .val (.int (Int32.ofNat i))] [(.ref t1), (.int (Int32.ofNat i))])) rfl (rest := [(.int (Int32.ofNat i))]) rfl (hb hby d17_2) zk) ?_
  refine Go.callSt (y := (⟨"java/lang/String", "checkIndex", "(II)V"⟩ : MethodName)) X0 hx hZ hown e0 (w104 hw) (w105 hw) (w9 hw) (w106 hw) (by decide) (argsL := [(.int (Int32.ofNat i)), (.int (Int32.ofNat bs.length))]) (rest := []) (W := 0) (rm_strIdx l Z a0 hw [] (Int32.ofNat i) (Int32.ofNat bs.length) fm h0 n0 Z0 O0 FM rf (own_ofn0 (by omega)) (own_oflt hi lb)) rfl (lenOf pd15 rfl) rfl (by rw [hml]; rfl) rfl (by show 2 * 0 + _ ≤ _; exact Nat.le_of_eq rfl) (by decide) (by decide) (by decide) (by decide) (hb hby d17_3) ?_
  intro v1 T1 h1 L1 X1 e1 q1
  obtain ⟨hv1, Nf1, hh1⟩ := q1
  subst hv1
  have E1 : T1.heap = h0 := e1.trans hh1
  have N1 := Fr.app N0 Nf1
  show Go p.tables e below _ T1 (mkF m 6 #[.val (.ref t1), .val (.int (Int32.ofNat i))] [])
  refine Go.st (T' := T1) (g' := (mkF m 7 #[.val (.ref t1), .val (.int (Int32.ofNat i))] [(.ref t1)])) (fun _ zk => XS.aloadN X1.here hx rfl (hb hby d17_6) rfl rfl zk) ?_
  refine Go.st (T' := T1) (g' := (mkF m 8 #[.val (.ref t1), .val (.int (Int32.ofNat i))] [(.int (Int32.ofNat i)), (.ref t1)])) (fun _ zk => XS.iloadN X1.here hx rfl (hb hby d17_7) rfl zk) ?_
  refine Go.st (T' := T1) (g' := (mkF m 9 #[.val (.ref t1), .val (.int (Int32.ofNat i))] [(.int (bs.getD i 0))])) (fun _ zk => ldBV X1 hx hZ E1 V1 (j := (Int32.ofNat i)) ⟨own_ofn0 (by omega), own_oflt hi lb⟩ (v := (.int (bs.getD i 0))) (by rw [own_clamp (by omega)]; exact own_getD bs i) (g := (mkF m 8 #[.val (.ref t1), .val (.int (Int32.ofNat i))] [(.int (Int32.ofNat i)), (.ref t1)])) rfl (rest := []) rfl (hb hby d17_8) zk) ?_
  refine Go.st (T' := T1) (g' := (mkF m 12 #[.val (.ref t1), .val (.int (Int32.ofNat i))] [(.int (255 : Int32)), (.int (bs.getD i 0))])) (fun _ zk => XS.sipush X1.here hx rfl (hb hby d17_9) zk) ?_
  refine Go.st (T' := T1) (g' := (mkF m 13 #[.val (.ref t1), .val (.int (Int32.ofNat i))] [(.int ((bs.getD i 0) &&& (255 : Int32)))])) (fun _ zk => XS.iand X1.here hx rfl (hb hby d17_12) rfl zk) ?_
  refine Go.st (T' := T1) (g' := (mkF m 14 #[.val (.ref t1), .val (.int (Int32.ofNat i))] [(.int (((bs.getD i 0) &&& (255 : Int32)).toUInt32.toUInt16.toUInt32.toInt32))])) (fun _ zk => XS.i2c X1.here hx rfl (hb hby d17_13) rfl zk) ?_
  refine Go.retN X1 hx hlk hret (congrArg Value.int nar_c) (by simp) (hb hby d17_14) (by decide) (by decide) E1 ?_
  exact ⟨rfl, N1, rfl⟩
theorem d15_0 : decode jdk_42_method_56_code 0 = .ok (.aload_n 0, 1) := by decide +kernel
theorem w100 {a0 : Array Value} {Z : State} (hw : ∀ d ∈ tables_1, d.before a0 Z = true) : ((Jvm.Cond.code ({ cls := "java/lang/String", name := "isLatin1", desc := "()Z" } : Jvm.MethodName) jdk_42_method_154_code (1 : Nat) (Option.some Jvm.ClassFile.FieldType.boolean))).before a0 Z = true := hw _ (List.mem_of_getElem? (i := 100) rfl)
theorem pd16 : parseMethodDescriptor "()Z" = some ⟨[], some .boolean⟩ := by decide +kernel
theorem d15_1 : decode jdk_42_method_56_code 1 = .ok (.invokevirtual 492, 3) := by decide +kernel
theorem w99 {a0 : Array Value} {Z : State} (hw : ∀ d ∈ tables_1, d.before a0 Z = true) : ((Jvm.Cond.selects "java/lang/String" ({ cls := "java/lang/String", name := "isLatin1", desc := "()Z" } : Jvm.MethodName) ({ cls := "java/lang/String", name := "isLatin1", desc := "()Z" } : Jvm.MethodName))).before a0 Z = true := hw _ (List.mem_of_getElem? (i := 99) rfl)
theorem w98 {a0 : Array Value} {Z : State} (hw : ∀ d ∈ tables_1, d.before a0 Z = true) : ((Jvm.Cond.instanceMethod ({ cls := "java/lang/String", name := "isLatin1", desc := "()Z" } : Jvm.MethodName))).before a0 Z = true := hw _ (List.mem_of_getElem? (i := 98) rfl)
theorem w96 {a0 : Array Value} {Z : State} (hw : ∀ d ∈ tables_1, d.before a0 Z = true) : ((Jvm.Cond.methodLink "java/lang/String" (492 : Nat) ({ cls := "java/lang/String", name := "isLatin1", desc := "()Z" } : Jvm.MethodName))).before a0 Z = true := hw _ (List.mem_of_getElem? (i := 96) rfl)
theorem w97 {a0 : Array Value} {Z : State} (hw : ∀ d ∈ tables_1, d.before a0 Z = true) : ((Jvm.Cond.declares ({ cls := "java/lang/String", name := "isLatin1", desc := "()Z" } : Jvm.MethodName))).before a0 Z = true := hw _ (List.mem_of_getElem? (i := 97) rfl)
theorem d15_4 : decode jdk_42_method_56_code 4 = .ok (.ifCond .eq 12, 3) := by decide +kernel
theorem d15_7 : decode jdk_42_method_56_code 7 = .ok (.aload_n 0, 1) := by decide +kernel
theorem d15_8 : decode jdk_42_method_56_code 8 = .ok (.getfield 9, 3) := by decide +kernel
theorem d15_11 : decode jdk_42_method_56_code 11 = .ok (.iload_n 1, 1) := by decide +kernel
theorem w103 {a0 : Array Value} {Z : State} (hw : ∀ d ∈ tables_1, d.before a0 Z = true) : ((Jvm.Cond.code ({ cls := "java/lang/StringLatin1", name := "charAt", desc := "([BI)C" } : Jvm.MethodName) jdk_43_method_2_code (2 : Nat) (Option.some Jvm.ClassFile.FieldType.char))).before a0 Z = true := hw _ (List.mem_of_getElem? (i := 103) rfl)
theorem d15_12 : decode jdk_42_method_56_code 12 = .ok (.invokestatic 495, 3) := by decide +kernel
theorem w101 {a0 : Array Value} {Z : State} (hw : ∀ d ∈ tables_1, d.before a0 Z = true) : ((Jvm.Cond.methodLink "java/lang/String" (495 : Nat) ({ cls := "java/lang/StringLatin1", name := "charAt", desc := "([BI)C" } : Jvm.MethodName))).before a0 Z = true := hw _ (List.mem_of_getElem? (i := 101) rfl)
theorem w102 {a0 : Array Value} {Z : State} (hw : ∀ d ∈ tables_1, d.before a0 Z = true) : ((Jvm.Cond.static ({ cls := "java/lang/StringLatin1", name := "charAt", desc := "([BI)C" } : Jvm.MethodName))).before a0 Z = true := hw _ (List.mem_of_getElem? (i := 102) rfl)
theorem d15_15 : decode jdk_42_method_56_code 15 = .ok (.ireturn, 1) := by decide +kernel
def rr_charAtG : Room := { frames := 3, cells := 0, slots := 0, locals := 40 }
set_option maxRecDepth 65536 in
set_option maxHeartbeats 40000000 in
theorem rm_charAtG (l : Launch) (Z : State) (a0 : Array Value) (hw : ∀ d ∈ tables_1, d.before a0 Z = true) (ws : List Jvm.Cond) (a1 : Addr) (bs : List Int32) (i : Nat) (zc : Int32) (fm : Value) (h0 : Heap) (n0 : Nat) (Z0 : n0 ≤ h0.size) (O0 : Old Z n0 h0) (S1 : StrB Z h0 a1 0 bs) (lb : bs.length < 2 ^ 31) (hi : i < bs.length) (CS : Sta Z Z.heap "java/lang/String" "COMPACT_STRINGS" "Z" (.int zc)) (hz : ¬ zc = 0) (FM : Sta Z Z.heap "jdk/internal/util/Preconditions" "SIOOBE_FORMATTER" "Ljava/util/function/BiFunction;" fm) (rf : fm.isRef = true) :
    Con l Z (⟨"java/lang/String", "charAt", "(I)C"⟩ : MethodName) jdk_42_method_56_code 2 (some .char) ws rr_charAtG #[(.ref a1), (.int (Int32.ofNat i))] h0 (fun v h L => v = some (.int (((bs.getD i 0) &&& (255 : Int32)).toUInt32.toUInt16.toUInt32.toInt32)) ∧ Fr n0 L ∧ h = h0) := by
  refine Con.enter (plainFor_of_name pn2) ?_
  intro p e s m below meth c s₁ X0 hx hZ hby hml hret hlk hown hnm e0
  have N0 := Fr.nil n0
  refine Go.cast (g' := (mkF m 0 #[.val (.ref a1), .val (.int (Int32.ofNat i))] [])) (by first | rfl | (simp [entryFrame, mkF, argsToLocals, Value.category]; done)) ?_
  obtain ⟨t1, k1, E_a1, C_a1, F_a1, V_a1⟩ := S1
  refine Go.st (T' := s₁) (g' := (mkF m 1 #[.val (.ref a1), .val (.int (Int32.ofNat i))] [(.ref a1)])) (fun _ zk => XS.aloadN X0.here hx rfl (hb hby d15_0) rfl rfl zk) ?_
  refine Go.callV (y := (⟨"java/lang/String", "isLatin1", "()Z"⟩ : MethodName)) (z := (⟨"java/lang/String", "isLatin1", "()Z"⟩ : MethodName)) (C := "java/lang/String") (a := a1) X0 hx hZ hown e0 (w96 hw) (w97 hw) (w99 hw) (w98 hw) (w9 hw) (w100 hw) (notFace_of_selects (args := #[]) (mvT hZ (w99 hw))) (by decide) E_a1 (argsL := []) (rest := []) (W := 0) (rm_isLatin1G l Z a0 hw [] a1 zc h0 n0 Z0 O0 C_a1 CS hz) rfl (lenOf pd16 rfl) rfl (by rw [hml]; rfl) rfl (by show 2 * 0 + _ ≤ _; exact Nat.le_of_eq rfl) (by decide) (by decide) (by decide) (by decide) (hb hby d15_1) ?_
  intro v1 T1 h1 L1 X1 e1 q1
  obtain ⟨hv1, Nf1, hh1⟩ := q1
  subst hv1
  have E1 : T1.heap = h0 := e1.trans hh1
  have N1 := Fr.app N0 Nf1
  show Go p.tables e below _ T1 (mkF m 4 #[.val (.ref a1), .val (.int (Int32.ofNat i))] [(.int (1 : Int32))])
  refine Go.st (T' := T1) (g' := (mkF m 7 #[.val (.ref a1), .val (.int (Int32.ofNat i))] [])) (fun _ zk => XS.ifNo X1.here hx rfl (hb hby d15_4) rfl ((if0 _ _).trans (feq ((by decide) : ¬ ((1 : Int32) = (0 : Int32)))).1) zk) ?_
  refine Go.st (T' := T1) (g' := (mkF m 8 #[.val (.ref a1), .val (.int (Int32.ofNat i))] [(.ref a1)])) (fun _ zk => XS.aloadN X1.here hx rfl (hb hby d15_7) rfl rfl zk) ?_
  obtain ⟨T2, X2, e2, st2⟩ := getF X1 hx hZ hown (host := "") (Or.inl (w26 hw)) Via.refl E1 F_a1 (g := (mkF m 8 #[.val (.ref a1), .val (.int (Int32.ofNat i))] [(.ref a1)])) rfl rfl (hb hby d15_8)
  refine Go.st (T' := T2) (g' := (mkF m 11 #[.val (.ref a1), .val (.int (Int32.ofNat i))] [(.ref t1)])) (fun _ zk => st2 _ zk) ?_
  refine Go.st (T' := T2) (g' := (mkF m 12 #[.val (.ref a1), .val (.int (Int32.ofNat i))] [(.int (Int32.ofNat i)), (.ref t1)])) (fun _ zk => XS.iloadN X2.here hx rfl (hb hby d15_11) rfl zk) ?_
  refine Go.callSt (y := (⟨"java/lang/StringLatin1", "charAt", "([BI)C"⟩ : MethodName)) X2 hx hZ hown e2 (w101 hw) (w102 hw) (w38 hw) (w103 hw) (by decide) (argsL := [(.ref t1), (.int (Int32.ofNat i))]) (rest := []) (W := 0) (rm_latinAt l Z a0 hw [] t1 k1 bs i fm h0 n0 Z0 O0 V_a1 lb hi FM rf) rfl (lenOf pd9 rfl) rfl (by rw [hml]; rfl) rfl (by show 2 * 0 + _ ≤ _; exact Nat.le_of_eq rfl) (by decide) (by decide) (by decide) (by decide) (hb hby d15_12) ?_
  intro v3 T3 h3 L3 X3 e3 q3
  obtain ⟨hv3, Nf3, hh3⟩ := q3
  subst hv3
  have E3 : T3.heap = h0 := e3.trans hh3
  have N3 := Fr.app N1 Nf3
  show Go p.tables e below _ T3 (mkF m 15 #[.val (.ref a1), .val (.int (Int32.ofNat i))] [(.int (((bs.getD i 0) &&& (255 : Int32)).toUInt32.toUInt16.toUInt32.toInt32))])
  refine Go.retN X3 hx hlk hret (congrArg Value.int nar_c) (by simp) (hb hby d15_15) (by decide) (by decide) E3 ?_
  exact ⟨rfl, N3, rfl⟩
theorem d16_17 : decode jdk_42_method_154_code 17 = .ok (.iconst 0, 1) := by decide +kernel
def rr_isLatinU : Room := { frames := 0, cells := 0, slots := 0, locals := 0 }
set_option maxRecDepth 65536 in
set_option maxHeartbeats 40000000 in
theorem rm_isLatinU (l : Launch) (Z : State) (a0 : Array Value) (hw : ∀ d ∈ tables_1, d.before a0 Z = true) (ws : List Jvm.Cond) (a1 : Addr) (zc : Int32) (h0 : Heap) (n0 : Nat) (Z0 : n0 ≤ h0.size) (O0 : Old Z n0 h0) (F0 : Fld Z h0 a1 "java/lang/String" "coder" "B" (.int (1 : Int32))) (CS : Sta Z Z.heap "java/lang/String" "COMPACT_STRINGS" "Z" (.int zc)) (hz : ¬ zc = 0) :
    Con l Z (⟨"java/lang/String", "isLatin1", "()Z"⟩ : MethodName) jdk_42_method_154_code 1 (some .boolean) ws rr_isLatinU #[(.ref a1)] h0 (fun v h L => v = some (.int 0) ∧ Fr n0 L ∧ h = h0) := by
  refine Con.enter (plainFor_of_name pn2) ?_
  intro p e s m below meth c s₁ X0 hx hZ hby hml hret hlk hown hnm e0
  have N0 := Fr.nil n0
  refine Go.cast (g' := (mkF m 0 #[.val (.ref a1)] [])) (by first | rfl | (simp [entryFrame, mkF, argsToLocals, Value.category]; done)) ?_
  obtain ⟨T1, X1, e1, st1⟩ := getS2 X0 hx hZ hown (host := "") (Or.inl (w35 hw)) Via.refl e0 (CS.ext O0.2) (g := (mkF m 0 #[.val (.ref a1)] [])) rfl (hb hby d16_0)
  refine Go.st (T' := T1) (g' := (mkF m 3 #[.val (.ref a1)] [(.int zc)])) (fun _ zk => st1 _ zk) ?_
  refine Go.st (T' := T1) (g' := (mkF m 6 #[.val (.ref a1)] [])) (fun _ zk => XS.ifNo X1.here hx rfl (hb hby d16_3) rfl ((if0 _ _).trans (feq (hz : ¬ (zc = (0 : Int32)))).1) zk) ?_
  refine Go.st (T' := T1) (g' := (mkF m 7 #[.val (.ref a1)] [(.ref a1)])) (fun _ zk => XS.aloadN X1.here hx rfl (hb hby d16_6) rfl rfl zk) ?_
  obtain ⟨T2, X2, e2, st2⟩ := getF X1 hx hZ hown (host := "") (Or.inl (w27 hw)) Via.refl e1 F0 (g := (mkF m 7 #[.val (.ref a1)] [(.ref a1)])) rfl rfl (hb hby d16_7)
  refine Go.st (T' := T2) (g' := (mkF m 10 #[.val (.ref a1)] [(.int (1 : Int32))])) (fun _ zk => st2 _ zk) ?_
  refine Go.st (T' := T2) (g' := (mkF m 17 #[.val (.ref a1)] [])) (fun _ zk => XS.ifYes X2.here hx rfl (pc0 := 10) (pc' := 17) rfl (hb hby d16_10) rfl ((if0 _ _).trans (feq ((by decide) : ¬ ((1 : Int32) = (0 : Int32)))).2) (by decide) (by decide) zk) ?_
  refine Go.st (T' := T2) (g' := (mkF m 18 #[.val (.ref a1)] [(.int (0 : Int32))])) (fun _ zk => XS.iconst X2.here hx rfl (hb hby d16_17) zk) ?_
  refine Go.retN X2 hx hlk hret rfl (by simp) (hb hby d16_18) (by decide) (by decide) e2 ?_
  exact ⟨rfl, N0, rfl⟩
theorem d27_0 : decode jdk_52_method_6_code 0 = .ok (.aload_n 0, 1) := by decide +kernel
theorem d27_1 : decode jdk_52_method_6_code 1 = .ok (.arraylength, 1) := by decide +kernel
theorem d27_2 : decode jdk_52_method_6_code 2 = .ok (.iconst 1, 1) := by decide +kernel
theorem d27_3 : decode jdk_52_method_6_code 3 = .ok (.ishr, 1) := by decide +kernel
theorem d27_4 : decode jdk_52_method_6_code 4 = .ok (.ireturn, 1) := by decide +kernel
def rr_ulenW : Room := { frames := 0, cells := 0, slots := 0, locals := 0 }
set_option maxRecDepth 65536 in
set_option maxHeartbeats 40000000 in
theorem rm_ulenW (l : Launch) (Z : State) (a0 : Array Value) (hw : ∀ d ∈ tables_1, d.before a0 Z = true) (ws : List Jvm.Cond) (t : Addr) (k : ClassId) (xs : List Int32) (n : Nat) (h0 : Heap) (n0 : Nat) (Z0 : n0 ≤ h0.size) (V1 : Arv Z h0 t k .byte (Int32.ofNat (2 * n)) (xs.map Value.int) (.int (0 : Int32))) (hx0 : xs.length = 2 * n) (hn : n < 2 ^ 30) :
    Con l Z (⟨"java/lang/StringUTF16", "length", "([B)I"⟩ : MethodName) jdk_52_method_6_code 1 (some .int) ws rr_ulenW #[(.ref t)] h0 (fun v h L => v = some (.int (Int32.ofNat n)) ∧ Fr n0 L ∧ h = h0) := by
  refine Con.enter (plainFor_of_name pn3) ?_
  intro p e s m below meth c s₁ X0 hx hZ hby hml hret hlk hown hnm e0
  have N0 := Fr.nil n0
  refine Go.cast (g' := (mkF m 0 #[.val (.ref t)] [])) (by first | rfl | (simp [entryFrame, mkF, argsToLocals, Value.category]; done)) ?_
  refine Go.st (T' := s₁) (g' := (mkF m 1 #[.val (.ref t)] [(.ref t)])) (fun _ zk => XS.aloadN X0.here hx rfl (hb hby d27_0) rfl rfl zk) ?_
  refine Go.st (T' := s₁) (g' := (mkF m 2 #[.val (.ref t)] [(.int (Int32.ofNat (2 * n)))])) (fun _ zk => lenV X0 hx hZ e0 V1 (g := (mkF m 1 #[.val (.ref t)] [(.ref t)])) rfl (rest := []) rfl (hb hby d27_1) zk) ?_
  refine Go.st (T' := s₁) (g' := (mkF m 3 #[.val (.ref t)] [(.int (1 : Int32)), (.int (Int32.ofNat (2 * n)))])) (fun _ zk => XS.iconst X0.here hx rfl (hb hby d27_2) zk) ?_
  refine Go.st (T' := s₁) (g' := (mkF m 4 #[.val (.ref t)] [(.int ((Int32.ofNat (2 * n)) >>> ((1 : Int32) &&& 31)))])) (fun _ zk => XS.ishr X0.here hx rfl (hb hby d27_3) rfl zk) ?_
  rw [own_shr1 hn]
  refine Go.retN X0 hx hlk hret rfl (by simp) (hb hby d27_4) (by decide) (by decide) e0 ?_
  exact ⟨rfl, N0, rfl⟩
theorem d26_0 : decode jdk_52_method_91_code 0 = .ok (.iload_n 0, 1) := by decide +kernel
theorem d26_1 : decode jdk_52_method_91_code 1 = .ok (.aload_n 1, 1) := by decide +kernel
theorem w139 {a0 : Array Value} {Z : State} (hw : ∀ d ∈ tables_1, d.before a0 Z = true) : ((Jvm.Cond.code ({ cls := "java/lang/StringUTF16", name := "length", desc := "([B)I" } : Jvm.MethodName) jdk_52_method_6_code (1 : Nat) (Option.some Jvm.ClassFile.FieldType.int))).before a0 Z = true := hw _ (List.mem_of_getElem? (i := 139) rfl)
theorem pd17 : parseMethodDescriptor "([B)I" = some ⟨[(.array .byte)], some .int⟩ := by decide +kernel
theorem d26_2 : decode jdk_52_method_91_code 2 = .ok (.invokestatic 48, 3) := by decide +kernel
theorem w137 {a0 : Array Value} {Z : State} (hw : ∀ d ∈ tables_1, d.before a0 Z = true) : ((Jvm.Cond.methodLink "java/lang/StringUTF16" (48 : Nat) ({ cls := "java/lang/StringUTF16", name := "length", desc := "([B)I" } : Jvm.MethodName))).before a0 Z = true := hw _ (List.mem_of_getElem? (i := 137) rfl)
theorem w138 {a0 : Array Value} {Z : State} (hw : ∀ d ∈ tables_1, d.before a0 Z = true) : ((Jvm.Cond.static ({ cls := "java/lang/StringUTF16", name := "length", desc := "([B)I" } : Jvm.MethodName))).before a0 Z = true := hw _ (List.mem_of_getElem? (i := 138) rfl)
theorem d26_5 : decode jdk_52_method_91_code 5 = .ok (.invokestatic 414, 3) := by decide +kernel
theorem w140 {a0 : Array Value} {Z : State} (hw : ∀ d ∈ tables_1, d.before a0 Z = true) : ((Jvm.Cond.methodLink "java/lang/StringUTF16" (414 : Nat) ({ cls := "java/lang/String", name := "checkIndex", desc := "(II)V" } : Jvm.MethodName))).before a0 Z = true := hw _ (List.mem_of_getElem? (i := 140) rfl)
theorem d26_8 : decode jdk_52_method_91_code 8 = .ok (.return_, 1) := by decide +kernel
def rr_uciW : Room := { frames := 2, cells := 0, slots := 0, locals := 27 }
set_option maxRecDepth 65536 in
set_option maxHeartbeats 40000000 in
theorem rm_uciW (l : Launch) (Z : State) (a0 : Array Value) (hw : ∀ d ∈ tables_1, d.before a0 Z = true) (ws : List Jvm.Cond) (t : Addr) (k : ClassId) (xs : List Int32) (n : Nat) (i : Nat) (fm : Value) (h0 : Heap) (n0 : Nat) (Z0 : n0 ≤ h0.size) (O0 : Old Z n0 h0) (V1 : Arv Z h0 t k .byte (Int32.ofNat (2 * n)) (xs.map Value.int) (.int (0 : Int32))) (hx0 : xs.length = 2 * n) (hn : n < 2 ^ 30) (hi : i < n) (FM : Sta Z Z.heap "jdk/internal/util/Preconditions" "SIOOBE_FORMATTER" "Ljava/util/function/BiFunction;" fm) (rf : fm.isRef = true) :
    Con l Z (⟨"java/lang/StringUTF16", "checkIndex", "(I[B)V"⟩ : MethodName) jdk_52_method_91_code 2 none ws rr_uciW #[(.int (Int32.ofNat i)), (.ref t)] h0 (fun v h L => v = none ∧ Fr n0 L ∧ h = h0) := by
  refine Con.enter (plainFor_of_name pn3) ?_
  intro p e s m below meth c s₁ X0 hx hZ hby hml hret hlk hown hnm e0
  have N0 := Fr.nil n0
  refine Go.cast (g' := (mkF m 0 #[.val (.int (Int32.ofNat i)), .val (.ref t)] [])) (by first | rfl | (simp [entryFrame, mkF, argsToLocals, Value.category]; done)) ?_
  refine Go.st (T' := s₁) (g' := (mkF m 1 #[.val (.int (Int32.ofNat i)), .val (.ref t)] [(.int (Int32.ofNat i))])) (fun _ zk => XS.iloadN X0.here hx rfl (hb hby d26_0) rfl zk) ?_
  refine Go.st (T' := s₁) (g' := (mkF m 2 #[.val (.int (Int32.ofNat i)), .val (.ref t)] [(.ref t), (.int (Int32.ofNat i))])) (fun _ zk => XS.aloadN X0.here hx rfl (hb hby d26_1) rfl rfl zk) ?_
  refine Go.callSt (y := (⟨"java/lang/StringUTF16", "length", "([B)I"⟩ : MethodName)) X0 hx hZ hown e0 (w137 hw) (w138 hw) (w82 hw) (w139 hw) (by decide) (argsL := [(.ref t)]) (rest := [(.int (Int32.ofNat i))]) (W := 1) (rm_ulenW l Z a0 hw [] t k xs n h0 n0 Z0 V1 hx0 hn) rfl (lenOf pd17 rfl) rfl (by rw [hml]; rfl) rfl (by show 2 * 0 + _ ≤ _; exact Nat.le_of_eq rfl) (by decide) (by decide) (by decide) (by decide) (hb hby d26_2) ?_
  intro v1 T1 h1 L1 X1 e1 q1
  obtain ⟨hv1, Nf1, hh1⟩ := q1
  subst hv1
  have E1 : T1.heap = h0 := e1.trans hh1
  have N1 := Fr.app N0 Nf1
  show Go p.tables e below _ T1 (mkF m 5 #[.val (.int (Int32.ofNat i)), .val (.ref t)] [(.int (Int32.ofNat n)), (.int (Int32.ofNat i))])
  refine Go.callSt (y := (⟨"java/lang/String", "checkIndex", "(II)V"⟩ : MethodName)) X1 hx hZ hown E1 (w140 hw) (w105 hw) (w9 hw) (w106 hw) (by decide) (argsL := [(.int (Int32.ofNat i)), (.int (Int32.ofNat n))]) (rest := []) (W := 0) (rm_strIdx l Z a0 hw [] (Int32.ofNat i) (Int32.ofNat n) fm h0 n0 Z0 O0 FM rf (own_ofn0 (by omega)) (own_oflt hi (by omega))) rfl (lenOf pd15 rfl) rfl (by rw [hml]; rfl) rfl (by show 2 * 0 + _ ≤ _; exact Nat.le_of_eq rfl) (by decide) (by decide) (by decide) (by decide) (hb hby d26_5) ?_
  intro v2 T2 h2 L2 X2 e2 q2
  obtain ⟨hv2, Nf2, hh2⟩ := q2
  subst hv2
  have E2 : T2.heap = h0 := e2.trans hh2
  have N2 := Fr.app N1 Nf2
  show Go p.tables e below _ T2 (mkF m 8 #[.val (.int (Int32.ofNat i)), .val (.ref t)] [])
  refine Go.retV X2 hx hlk hret (hb hby d26_8) (by decide) (by decide) E2 ?_
  exact ⟨rfl, N2, rfl⟩
theorem d25_0 : decode jdk_52_method_83_code 0 = .ok (.iload_n 1, 1) := by decide +kernel
theorem d25_1 : decode jdk_52_method_83_code 1 = .ok (.aload_n 0, 1) := by decide +kernel
theorem w136 {a0 : Array Value} {Z : State} (hw : ∀ d ∈ tables_1, d.before a0 Z = true) : ((Jvm.Cond.code ({ cls := "java/lang/StringUTF16", name := "checkIndex", desc := "(I[B)V" } : Jvm.MethodName) jdk_52_method_91_code (2 : Nat) (Option.none : Option Jvm.ClassFile.FieldType))).before a0 Z = true := hw _ (List.mem_of_getElem? (i := 136) rfl)
theorem pd18 : parseMethodDescriptor "(I[B)V" = some ⟨[.int, (.array .byte)], none⟩ := by decide +kernel
theorem d25_2 : decode jdk_52_method_83_code 2 = .ok (.invokestatic 67, 3) := by decide +kernel
theorem w134 {a0 : Array Value} {Z : State} (hw : ∀ d ∈ tables_1, d.before a0 Z = true) : ((Jvm.Cond.methodLink "java/lang/StringUTF16" (67 : Nat) ({ cls := "java/lang/StringUTF16", name := "checkIndex", desc := "(I[B)V" } : Jvm.MethodName))).before a0 Z = true := hw _ (List.mem_of_getElem? (i := 134) rfl)
theorem w135 {a0 : Array Value} {Z : State} (hw : ∀ d ∈ tables_1, d.before a0 Z = true) : ((Jvm.Cond.static ({ cls := "java/lang/StringUTF16", name := "checkIndex", desc := "(I[B)V" } : Jvm.MethodName))).before a0 Z = true := hw _ (List.mem_of_getElem? (i := 135) rfl)
theorem d25_5 : decode jdk_52_method_83_code 5 = .ok (.aload_n 0, 1) := by decide +kernel
theorem d25_6 : decode jdk_52_method_83_code 6 = .ok (.iload_n 1, 1) := by decide +kernel
theorem d25_7 : decode jdk_52_method_83_code 7 = .ok (.invokestatic 71, 3) := by decide +kernel
theorem d25_10 : decode jdk_52_method_83_code 10 = .ok (.ireturn, 1) := by decide +kernel
def rr_uatW : Room := { frames := 3, cells := 0, slots := 0, locals := 40 }
set_option maxRecDepth 65536 in
set_option maxHeartbeats 40000000 in
theorem rm_uatW (l : Launch) (Z : State) (a0 : Array Value) (hw : ∀ d ∈ tables_1, d.before a0 Z = true) (ws : List Jvm.Cond) (t : Addr) (k : ClassId) (xs : List Int32) (n : Nat) (i : Nat) (fm : Value) (h0 : Heap) (n0 : Nat) (Z0 : n0 ≤ h0.size) (O0 : Old Z n0 h0) (V1 : Arv Z h0 t k .byte (Int32.ofNat (2 * n)) (xs.map Value.int) (.int (0 : Int32))) (hx0 : xs.length = 2 * n) (hn : n < 2 ^ 30) (hi : i < n) (FM : Sta Z Z.heap "jdk/internal/util/Preconditions" "SIOOBE_FORMATTER" "Ljava/util/function/BiFunction;" fm) (rf : fm.isRef = true) (UA : Sta Z Z.heap "java/lang/StringUTF16" "$assertionsDisabled" "Z" (.int (1 : Int32))) (UH : Sta Z Z.heap "java/lang/StringUTF16" "HI_BYTE_SHIFT" "I" (.int (0 : Int32))) (UL : Sta Z Z.heap "java/lang/StringUTF16" "LO_BYTE_SHIFT" "I" (.int (8 : Int32))) :
    Con l Z (⟨"java/lang/StringUTF16", "charAt", "([BI)C"⟩ : MethodName) jdk_52_method_83_code 2 (some .char) ws rr_uatW #[(.ref t), (.int (Int32.ofNat i))] h0 (fun v h L => v = some (.int (((((xs.getD (2 * i) 0) &&& (255 : Int32)) <<< ((0 : Int32) &&& 31)) ||| (((xs.getD (2 * i + 1) 0) &&& (255 : Int32)) <<< ((8 : Int32) &&& 31))).toUInt32.toUInt16.toUInt32.toInt32)) ∧ Fr n0 L ∧ h = h0) := by
  refine Con.enter (plainFor_of_name pn3) ?_
  intro p e s m below meth c s₁ X0 hx hZ hby hml hret hlk hown hnm e0
  have N0 := Fr.nil n0
  refine Go.cast (g' := (mkF m 0 #[.val (.ref t), .val (.int (Int32.ofNat i))] [])) (by first | rfl | (simp [entryFrame, mkF, argsToLocals, Value.category]; done)) ?_
  refine Go.st (T' := s₁) (g' := (mkF m 1 #[.val (.ref t), .val (.int (Int32.ofNat i))] [(.int (Int32.ofNat i))])) (fun _ zk => XS.iloadN X0.here hx rfl (hb hby d25_0) rfl zk) ?_
  refine Go.st (T' := s₁) (g' := (mkF m 2 #[.val (.ref t), .val (.int (Int32.ofNat i))] [(.ref t), (.int (Int32.ofNat i))])) (fun _ zk => XS.aloadN X0.here hx rfl (hb hby d25_1) rfl rfl zk) ?_
  refine Go.callSt (y := (⟨"java/lang/StringUTF16", "checkIndex", "(I[B)V"⟩ : MethodName)) X0 hx hZ hown e0 (w134 hw) (w135 hw) (w82 hw) (w136 hw) (by decide) (argsL := [(.int (Int32.ofNat i)), (.ref t)]) (rest := []) (W := 0) (rm_uciW l Z a0 hw [] t k xs n i fm h0 n0 Z0 O0 V1 hx0 hn hi FM rf) rfl (lenOf pd18 rfl) rfl (by rw [hml]; rfl) rfl (by show 2 * 0 + _ ≤ _; exact Nat.le_of_eq rfl) (by decide) (by decide) (by decide) (by decide) (hb hby d25_2) ?_
  intro v1 T1 h1 L1 X1 e1 q1
  obtain ⟨hv1, Nf1, hh1⟩ := q1
  subst hv1
  have E1 : T1.heap = h0 := e1.trans hh1
  have N1 := Fr.app N0 Nf1
  show Go p.tables e below _ T1 (mkF m 5 #[.val (.ref t), .val (.int (Int32.ofNat i))] [])
  refine Go.st (T' := T1) (g' := (mkF m 6 #[.val (.ref t), .val (.int (Int32.ofNat i))] [(.ref t)])) (fun _ zk => XS.aloadN X1.here hx rfl (hb hby d25_5) rfl rfl zk) ?_
  refine Go.st (T' := T1) (g' := (mkF m 7 #[.val (.ref t), .val (.int (Int32.ofNat i))] [(.int (Int32.ofNat i)), (.ref t)])) (fun _ zk => XS.iloadN X1.here hx rfl (hb hby d25_6) rfl zk) ?_
  refine Go.callSt (y := (⟨"java/lang/StringUTF16", "getChar", "([BI)C"⟩ : MethodName)) X1 hx hZ hown E1 (w128 hw) (w129 hw) (w82 hw) (w130 hw) (by decide) (argsL := [(.ref t), (.int (Int32.ofNat i))]) (rest := []) (W := 0) (rm_getW l Z a0 hw [] t k xs (2 * n) i h0 n0 Z0 O0 V1 hx0 (by omega) (by omega) UA UH UL) rfl (lenOf pd9 rfl) rfl (by rw [hml]; rfl) rfl (by show 2 * 0 + _ ≤ _; exact Nat.le_of_eq rfl) (by decide) (by decide) (by decide) (by decide) (hb hby d25_7) ?_
  intro v2 T2 h2 L2 X2 e2 q2
  obtain ⟨hv2, Nf2, hh2⟩ := q2
  subst hv2
  have E2 : T2.heap = h0 := e2.trans hh2
  have N2 := Fr.app N1 Nf2
  show Go p.tables e below _ T2 (mkF m 10 #[.val (.ref t), .val (.int (Int32.ofNat i))] [(.int (((((xs.getD (2 * i) 0) &&& (255 : Int32)) <<< ((0 : Int32) &&& 31)) ||| (((xs.getD (2 * i + 1) 0) &&& (255 : Int32)) <<< ((8 : Int32) &&& 31))).toUInt32.toUInt16.toUInt32.toInt32))])
  refine Go.retN X2 hx hlk hret (congrArg Value.int nar_c) (by simp) (hb hby d25_10) (by decide) (by decide) E2 ?_
  exact ⟨rfl, N2, rfl⟩
theorem d15_16 : decode jdk_42_method_56_code 16 = .ok (.aload_n 0, 1) := by decide +kernel
theorem d15_17 : decode jdk_42_method_56_code 17 = .ok (.getfield 9, 3) := by decide +kernel
theorem d15_20 : decode jdk_42_method_56_code 20 = .ok (.iload_n 1, 1) := by decide +kernel
theorem w133 {a0 : Array Value} {Z : State} (hw : ∀ d ∈ tables_1, d.before a0 Z = true) : ((Jvm.Cond.code ({ cls := "java/lang/StringUTF16", name := "charAt", desc := "([BI)C" } : Jvm.MethodName) jdk_52_method_83_code (2 : Nat) (Option.some Jvm.ClassFile.FieldType.char))).before a0 Z = true := hw _ (List.mem_of_getElem? (i := 133) rfl)
theorem d15_21 : decode jdk_42_method_56_code 21 = .ok (.invokestatic 498, 3) := by decide +kernel
theorem w131 {a0 : Array Value} {Z : State} (hw : ∀ d ∈ tables_1, d.before a0 Z = true) : ((Jvm.Cond.methodLink "java/lang/String" (498 : Nat) ({ cls := "java/lang/StringUTF16", name := "charAt", desc := "([BI)C" } : Jvm.MethodName))).before a0 Z = true := hw _ (List.mem_of_getElem? (i := 131) rfl)
theorem w132 {a0 : Array Value} {Z : State} (hw : ∀ d ∈ tables_1, d.before a0 Z = true) : ((Jvm.Cond.static ({ cls := "java/lang/StringUTF16", name := "charAt", desc := "([BI)C" } : Jvm.MethodName))).before a0 Z = true := hw _ (List.mem_of_getElem? (i := 132) rfl)
theorem d15_24 : decode jdk_42_method_56_code 24 = .ok (.ireturn, 1) := by decide +kernel
def rr_charAtW : Room := { frames := 4, cells := 0, slots := 0, locals := 53 }
set_option maxRecDepth 65536 in
set_option maxHeartbeats 40000000 in
theorem rm_charAtW (l : Launch) (Z : State) (a0 : Array Value) (hw : ∀ d ∈ tables_1, d.before a0 Z = true) (ws : List Jvm.Cond) (a1 : Addr) (cs : List Int32) (n i : Nat) (zc : Int32) (fm : Value) (h0 : Heap) (n0 : Nat) (Z0 : n0 ≤ h0.size) (O0 : Old Z n0 h0) (SC : StrC Z h0 a1 n cs) (hcs : cs.length = n) (hn : n < 2 ^ 30) (hr : ∀ c ∈ cs, 0 ≤ c.toInt ∧ c.toInt < 65536) (hi : i < n) (CS : Sta Z Z.heap "java/lang/String" "COMPACT_STRINGS" "Z" (.int zc)) (hz : ¬ zc = 0) (FM : Sta Z Z.heap "jdk/internal/util/Preconditions" "SIOOBE_FORMATTER" "Ljava/util/function/BiFunction;" fm) (rf : fm.isRef = true) (UA : Sta Z Z.heap "java/lang/StringUTF16" "$assertionsDisabled" "Z" (.int (1 : Int32))) (UH : Sta Z Z.heap "java/lang/StringUTF16" "HI_BYTE_SHIFT" "I" (.int (0 : Int32))) (UL : Sta Z Z.heap "java/lang/StringUTF16" "LO_BYTE_SHIFT" "I" (.int (8 : Int32))) :
    Con l Z (⟨"java/lang/String", "charAt", "(I)C"⟩ : MethodName) jdk_42_method_56_code 2 (some .char) ws rr_charAtW #[(.ref a1), (.int (Int32.ofNat i))] h0 (fun v h L => v = some (.int (cs.getD i 0)) ∧ Fr n0 L ∧ h = h0) := by
  refine Con.enter (plainFor_of_name pn2) ?_
  intro p e s m below meth c s₁ X0 hx hZ hby hml hret hlk hown hnm e0
  have N0 := Fr.nil n0
  refine Go.cast (g' := (mkF m 0 #[.val (.ref a1), .val (.int (Int32.ofNat i))] [])) (by first | rfl | (simp [entryFrame, mkF, argsToLocals, Value.category]; done)) ?_
  obtain ⟨cd, xs, He, S1⟩ := SC
  have hrg := own_rg hr hcs hi
  rcases He with ⟨rfl, hl, hle, hx0⟩ | ⟨rfl, hl, -, hx0⟩
  · obtain ⟨t1, k1, E_a1, C_a1, F_a1, V_a1⟩ := S1
    refine Go.st (T' := s₁) (g' := (mkF m 1 #[.val (.ref a1), .val (.int (Int32.ofNat i))] [(.ref a1)])) (fun _ zk => XS.aloadN X0.here hx rfl (hb hby d15_0) rfl rfl zk) ?_
    refine Go.callV (y := (⟨"java/lang/String", "isLatin1", "()Z"⟩ : MethodName)) (z := (⟨"java/lang/String", "isLatin1", "()Z"⟩ : MethodName)) (C := "java/lang/String") (a := a1) X0 hx hZ hown e0 (w96 hw) (w97 hw) (w99 hw) (w98 hw) (w9 hw) (w100 hw) (notFace_of_selects (args := #[]) (mvT hZ (w99 hw))) (by decide) E_a1 (argsL := []) (rest := []) (W := 0) (rm_isLatin1G l Z a0 hw [] a1 zc h0 n0 Z0 O0 C_a1 CS hz) rfl (lenOf pd16 rfl) rfl (by rw [hml]; rfl) rfl (by show 2 * 0 + _ ≤ _; exact Nat.le_of_eq rfl) (by decide) (by decide) (by decide) (by decide) (hb hby d15_1) ?_
    intro v1 T1 h1 L1 X1 e1 q1
    obtain ⟨hv1, Nf1, hh1⟩ := q1
    subst hv1
    have E1 : T1.heap = h0 := e1.trans hh1
    have N1 := Fr.app N0 Nf1
    show Go p.tables e below _ T1 (mkF m 4 #[.val (.ref a1), .val (.int (Int32.ofNat i))] [(.int (1 : Int32))])
    refine Go.st (T' := T1) (g' := (mkF m 7 #[.val (.ref a1), .val (.int (Int32.ofNat i))] [])) (fun _ zk => XS.ifNo X1.here hx rfl (hb hby d15_4) rfl ((if0 _ _).trans (feq ((by decide) : ¬ ((1 : Int32) = (0 : Int32)))).1) zk) ?_
    refine Go.st (T' := T1) (g' := (mkF m 8 #[.val (.ref a1), .val (.int (Int32.ofNat i))] [(.ref a1)])) (fun _ zk => XS.aloadN X1.here hx rfl (hb hby d15_7) rfl rfl zk) ?_
    obtain ⟨T2, X2, e2, st2⟩ := getF X1 hx hZ hown (host := "") (Or.inl (w26 hw)) Via.refl E1 F_a1 (g := (mkF m 8 #[.val (.ref a1), .val (.int (Int32.ofNat i))] [(.ref a1)])) rfl rfl (hb hby d15_8)
    refine Go.st (T' := T2) (g' := (mkF m 11 #[.val (.ref a1), .val (.int (Int32.ofNat i))] [(.ref t1)])) (fun _ zk => st2 _ zk) ?_
    refine Go.st (T' := T2) (g' := (mkF m 12 #[.val (.ref a1), .val (.int (Int32.ofNat i))] [(.int (Int32.ofNat i)), (.ref t1)])) (fun _ zk => XS.iloadN X2.here hx rfl (hb hby d15_11) rfl zk) ?_
    refine Go.callSt (y := (⟨"java/lang/StringLatin1", "charAt", "([BI)C"⟩ : MethodName)) X2 hx hZ hown e2 (w101 hw) (w102 hw) (w38 hw) (w103 hw) (by decide) (argsL := [(.ref t1), (.int (Int32.ofNat i))]) (rest := []) (W := 0) (rm_latinAt l Z a0 hw [] t1 k1 xs i fm h0 n0 Z0 O0 V_a1 (by omega) (by omega) FM rf) rfl (lenOf pd9 rfl) rfl (by rw [hml]; rfl) rfl (by show 2 * 0 + _ ≤ _; exact Nat.le_of_eq rfl) (by decide) (by decide) (by decide) (by decide) (hb hby d15_12) ?_
    intro v3 T3 h3 L3 X3 e3 q3
    obtain ⟨hv3, Nf3, hh3⟩ := q3
    subst hv3
    have E3 : T3.heap = h0 := e3.trans hh3
    have N3 := Fr.app N1 Nf3
    show Go p.tables e below _ T3 (mkF m 15 #[.val (.ref a1), .val (.int (Int32.ofNat i))] [(.int (((xs.getD i 0) &&& (255 : Int32)).toUInt32.toUInt16.toUInt32.toInt32))])
    rw [hx0 i hi, own_u8c hrg (hle i hi)]
    refine Go.retN X3 hx hlk hret (congrArg Value.int (nar_cid hrg)) (by simp) (hb hby d15_15) (by decide) (by decide) E3 ?_
    exact ⟨rfl, N3, rfl⟩
  · obtain ⟨t1, k1, E_a1, C_a1, F_a1, V_a1⟩ := S1
    rw [hl] at V_a1
    refine Go.st (T' := s₁) (g' := (mkF m 1 #[.val (.ref a1), .val (.int (Int32.ofNat i))] [(.ref a1)])) (fun _ zk => XS.aloadN X0.here hx rfl (hb hby d15_0) rfl rfl zk) ?_
    refine Go.callV (y := (⟨"java/lang/String", "isLatin1", "()Z"⟩ : MethodName)) (z := (⟨"java/lang/String", "isLatin1", "()Z"⟩ : MethodName)) (C := "java/lang/String") (a := a1) X0 hx hZ hown e0 (w96 hw) (w97 hw) (w99 hw) (w98 hw) (w9 hw) (w100 hw) (notFace_of_selects (args := #[]) (mvT hZ (w99 hw))) (by decide) E_a1 (argsL := []) (rest := []) (W := 0) (rm_isLatinU l Z a0 hw [] a1 zc h0 n0 Z0 O0 C_a1 CS hz) rfl (lenOf pd16 rfl) rfl (by rw [hml]; rfl) rfl (by show 2 * 0 + _ ≤ _; exact Nat.le_of_eq rfl) (by decide) (by decide) (by decide) (by decide) (hb hby d15_1) ?_
    intro v4 T4 h4 L4 X4 e4 q4
    obtain ⟨hv4, Nf4, hh4⟩ := q4
    subst hv4
    have E4 : T4.heap = h0 := e4.trans hh4
    have N4 := Fr.app N0 Nf4
    show Go p.tables e below _ T4 (mkF m 4 #[.val (.ref a1), .val (.int (Int32.ofNat i))] [(.int (0 : Int32))])
    refine Go.st (T' := T4) (g' := (mkF m 16 #[.val (.ref a1), .val (.int (Int32.ofNat i))] [])) (fun _ zk => XS.ifYes X4.here hx rfl (pc0 := 4) (pc' := 16) rfl (hb hby d15_4) rfl ((if0 _ _).trans (teq (rfl : (0 : Int32) = (0 : Int32))).1) (by decide) (by decide) zk) ?_
    refine Go.st (T' := T4) (g' := (mkF m 17 #[.val (.ref a1), .val (.int (Int32.ofNat i))] [(.ref a1)])) (fun _ zk => XS.aloadN X4.here hx rfl (hb hby d15_16) rfl rfl zk) ?_
    obtain ⟨T5, X5, e5, st5⟩ := getF X4 hx hZ hown (host := "") (Or.inl (w26 hw)) Via.refl E4 F_a1 (g := (mkF m 17 #[.val (.ref a1), .val (.int (Int32.ofNat i))] [(.ref a1)])) rfl rfl (hb hby d15_17)
    refine Go.st (T' := T5) (g' := (mkF m 20 #[.val (.ref a1), .val (.int (Int32.ofNat i))] [(.ref t1)])) (fun _ zk => st5 _ zk) ?_
    refine Go.st (T' := T5) (g' := (mkF m 21 #[.val (.ref a1), .val (.int (Int32.ofNat i))] [(.int (Int32.ofNat i)), (.ref t1)])) (fun _ zk => XS.iloadN X5.here hx rfl (hb hby d15_20) rfl zk) ?_
    refine Go.callSt (y := (⟨"java/lang/StringUTF16", "charAt", "([BI)C"⟩ : MethodName)) X5 hx hZ hown e5 (w131 hw) (w132 hw) (w82 hw) (w133 hw) (by decide) (argsL := [(.ref t1), (.int (Int32.ofNat i))]) (rest := []) (W := 0) (rm_uatW l Z a0 hw [] t1 k1 xs n i fm h0 n0 Z0 O0 V_a1 hl hn hi FM rf UA UH UL) rfl (lenOf pd9 rfl) rfl (by rw [hml]; rfl) rfl (by show 2 * 0 + _ ≤ _; exact Nat.le_of_eq rfl) (by decide) (by decide) (by decide) (by decide) (hb hby d15_21) ?_
    intro v6 T6 h6 L6 X6 e6 q6
    obtain ⟨hv6, Nf6, hh6⟩ := q6
    subst hv6
    have E6 : T6.heap = h0 := e6.trans hh6
    have N6 := Fr.app N4 Nf6
    show Go p.tables e below _ T6 (mkF m 24 #[.val (.ref a1), .val (.int (Int32.ofNat i))] [(.int (((((xs.getD (2 * i) 0) &&& (255 : Int32)) <<< ((0 : Int32) &&& 31)) ||| (((xs.getD (2 * i + 1) 0) &&& (255 : Int32)) <<< ((8 : Int32) &&& 31))).toUInt32.toUInt16.toUInt32.toInt32))])
    rw [(hx0 i hi).1, (hx0 i hi).2, own_cc hrg]
    refine Go.retN X6 hx hlk hret (congrArg Value.int (nar_cid hrg)) (by simp) (hb hby d15_24) (by decide) (by decide) E6 ?_
    exact ⟨rfl, N6, rfl⟩
theorem d3_8 : decode jdk_42_method_149_code 8 = .ok (.aload_n 0, 1) := by decide +kernel
theorem d3_9 : decode jdk_42_method_149_code 9 = .ok (.ldc 7, 2) := by decide +kernel
theorem d3_11 : decode jdk_42_method_149_code 11 = .ok (.getfield 9, 3) := by decide +kernel
theorem d3_14 : decode jdk_42_method_149_code 14 = .ok (.putfield 9, 3) := by decide +kernel
theorem d3_17 : decode jdk_42_method_149_code 17 = .ok (.aload_n 0, 1) := by decide +kernel
theorem d3_18 : decode jdk_42_method_149_code 18 = .ok (.ldc 7, 2) := by decide +kernel
theorem d3_20 : decode jdk_42_method_149_code 20 = .ok (.getfield 15, 3) := by decide +kernel
theorem d3_23 : decode jdk_42_method_149_code 23 = .ok (.putfield 15, 3) := by decide +kernel
theorem d3_26 : decode jdk_42_method_149_code 26 = .ok (.return_, 1) := by decide +kernel
def rr_init4_0 : Room := { frames := 1, cells := 4, slots := 8, locals := 12 }
set_option maxRecDepth 65536 in
set_option maxHeartbeats 40000000 in
theorem rm_init4_0 (l : Launch) (Z : State) (a0 : Array Value) (hw : ∀ d ∈ tables_1, d.before a0 Z = true) (ws : List Jvm.Cond) (a1 b : Addr) (kC : ClassId) (h0 : Heap) (n0 : Nat) (Z0 : n0 ≤ h0.size) (E0 : Exa Z h0 a1 "java/lang/String") (g0 : n0 ≤ a1) (C0 : Fld Z h0 a1 "java/lang/String" "coder" "B" (.int (0 : Int32))) (V0 : Fld Z h0 a1 "java/lang/String" "value" "[B" .null) (VC : Arv Z h0 b kC .char (0 : Int32) [] (.int (0 : Int32))) :
    ConS l Z EL0 (⟨"java/lang/String", "<init>", "([CIILjava/lang/Void;)V"⟩ : MethodName) jdk_42_method_149_code 6 none ws rr_init4_0 #[(.ref a1), (.ref b), (.int (0 : Int32)), (.int (0 : Int32)), .null] h0 [a1] (fun v h L => v = none ∧ Fr n0 L ∧ Keep h0 h [a1] ∧ Fld Z h a1 "java/lang/String" "coder" "B" (.int (0 : Int32)) ∧ ∃ (t : Addr) (k : ClassId), Fld Z h a1 "java/lang/String" "value" "[B" (.ref t) ∧ Arv Z h t k .byte (0 : Int32) [] (.int (0 : Int32))) := by
  refine ConS.enter (plainFor_of_name pn2) ?_
  intro p e s m below meth c s₁ X0 hx hZ hby hml hret hlk hown hnm e0 hS hA hsf
  have N0 := Fr.nil n0
  have hEL := hEL0 hw
  have hSt := hSt0 hw
  refine Go.cast (g' := (mkF m 0 #[.val (.ref a1), .val (.ref b), .val (.int (0 : Int32)), .val (.int (0 : Int32)), .val .null, .unset] [])) (by first | rfl | (simp [entryFrame, mkF, argsToLocals, Value.category]; done)) ?_
  refine Go.st (T' := s₁) (g' := (mkF m 1 #[.val (.ref a1), .val (.ref b), .val (.int (0 : Int32)), .val (.int (0 : Int32)), .val .null, .unset] [(.ref a1)])) (fun _ zk => XS.aloadN X0.here hx rfl (hb hby d3_0) rfl rfl zk) ?_
  obtain ⟨T1, X1, e1, st1⟩ := initO X0 hx hZ hown (w17 hw) (w18 hw) (w19 hw) e0 (g := (mkF m 1 #[.val (.ref a1), .val (.ref b), .val (.int (0 : Int32)), .val (.int (0 : Int32)), .val .null, .unset] [(.ref a1)])) rfl (by rw [hml]; rfl) rfl (hb hby d3_1) (by decide) (W := 0) (by show 2 * 0 + _ ≤ _; exact Nat.le_of_eq rfl) (by decide)
  refine Go.st (T' := T1) (g' := (mkF m 4 #[.val (.ref a1), .val (.ref b), .val (.int (0 : Int32)), .val (.int (0 : Int32)), .val .null, .unset] [])) (fun _ zk => st1 _ zk) ?_
  refine Go.st (T' := T1) (g' := (mkF m 5 #[.val (.ref a1), .val (.ref b), .val (.int (0 : Int32)), .val (.int (0 : Int32)), .val .null, .unset] [(.int (0 : Int32))])) (fun _ zk => XS.iloadN X1.here hx rfl (hb hby d3_4) rfl zk) ?_
  refine Go.st (T' := T1) (g' := (mkF m 8 #[.val (.ref a1), .val (.ref b), .val (.int (0 : Int32)), .val (.int (0 : Int32)), .val .null, .unset] [])) (fun _ zk => XS.ifNo X1.here hx rfl (hb hby d3_5) rfl ((if0 _ _).trans (teq (rfl : (0 : Int32) = (0 : Int32))).2) zk) ?_
  refine Go.st (T' := T1) (g' := (mkF m 9 #[.val (.ref a1), .val (.ref b), .val (.int (0 : Int32)), .val (.int (0 : Int32)), .val .null, .unset] [(.ref a1)])) (fun _ zk => XS.aloadN X1.here hx rfl (hb hby d3_8) rfl rfl zk) ?_
  obtain ⟨l2, T2, h2, kk2, lt2, kl2, X2, e2, E2, hS, hk2, hZ', hown, A2, C2, F2, V2, la2, lb2, cr2, -, sf2, st2⟩ := ldcCH X1 hx hZ hown (w20 hw) hSt e1 hS (Nat.zero_le _) hEL (by decide) hA.1 (vs := []) (z := (0 : Int32)) ⟨by decide, by decide⟩ (by decide) (by decide) (g := (mkF m 9 #[.val (.ref a1), .val (.ref b), .val (.int (0 : Int32)), .val (.int (0 : Int32)), .val .null, .unset] [(.ref a1)])) rfl (hb hby d3_9) (n := 0) (by decide) (by decide) (by decide) (by decide)
  have hZ : Z.Warmed39 T2.vm := hZ'
  have ca3 := hA.trans cr2
  have sf_4 := cr2.safe E0.lt (hsf a1 (List.mem_of_getElem? (i := 0) rfl))
  refine Go.st (T' := T2) (g' := (mkF m 11 #[.val (.ref a1), .val (.ref b), .val (.int (0 : Int32)), .val (.int (0 : Int32)), .val .null, .unset] [(.ref l2), (.ref a1)])) (fun _ zk => st2 _ zk) ?_
  obtain ⟨T5, X5, e5, st5⟩ := getF X2 hx hZ hown (host := "") (Or.inl (w26 hw)) Via.refl e2 F2 (g := (mkF m 11 #[.val (.ref a1), .val (.ref b), .val (.int (0 : Int32)), .val (.int (0 : Int32)), .val .null, .unset] [(.ref l2), (.ref a1)])) rfl rfl (hb hby d3_11)
  refine Go.st (T' := T5) (g' := (mkF m 14 #[.val (.ref a1), .val (.ref b), .val (.int (0 : Int32)), .val (.int (0 : Int32)), .val .null, .unset] [(.ref lt2), (.ref a1)])) (fun _ zk => st5 _ zk) ?_
  have xt7 : Ext h0 h2 := E2
  have f8 := V0.ext xt7
  have f9 := E0.ext xt7
  obtain ⟨T6, h6, X6, e6, W6, st6⟩ := putF X5 hx hZ hown (host := "") (Or.inl (w26 hw)) Via.refl e5 f8 f9 (Or.inr ⟨(w22 hw), rfl, hnm⟩) (w8 hw) (ty := (.array .byte)) (by decide) rfl rfl (g := (mkF m 14 #[.val (.ref a1), .val (.ref b), .val (.int (0 : Int32)), .val (.int (0 : Int32)), .val .null, .unset] [(.ref lt2), (.ref a1)])) rfl rfl (hb hby d3_14)
  have F6 := f8.same W6
  have N6 := Fr.snoc X6 N0 g0
  refine Go.st (T' := T6) (g' := (mkF m 17 #[.val (.ref a1), .val (.ref b), .val (.int (0 : Int32)), .val (.int (0 : Int32)), .val .null, .unset] [])) (fun _ zk => st6 _ zk) ?_
  refine Go.st (T' := T6) (g' := (mkF m 18 #[.val (.ref a1), .val (.ref b), .val (.int (0 : Int32)), .val (.int (0 : Int32)), .val .null, .unset] [(.ref a1)])) (fun _ zk => XS.aloadN X6.here hx rfl (hb hby d3_17) rfl rfl zk) ?_
  have cr11 := (chrW ca3 W6 sf_4)
  have cr12 := ca3
  obtain ⟨l10, T10, h10, kk10, lt10, kl10, X10, e10, E10, hS, hk10, hZ', hown, A10, C10, F10, V10, la10, lb10, cr10, -, sf10, st10⟩ := ldcCH X6 hx hZ hown (w20 hw) hSt e6 hS (Nat.le_trans hk2 (Keep.of_wr W6).1) hEL (by decide) cr11.1 (vs := []) (z := (0 : Int32)) ⟨by decide, by decide⟩ (by decide) (by decide) (g := (mkF m 18 #[.val (.ref a1), .val (.ref b), .val (.int (0 : Int32)), .val (.int (0 : Int32)), .val .null, .unset] [(.ref a1)])) rfl (hb hby d3_18) (n := 0) (by decide) (by decide) (by decide) (by decide)
  have hZ : Z.Warmed39 T10.vm := hZ'
  have ca13 := cr11.trans cr10
  have sf_14 := cr10.safe (Nat.lt_of_lt_of_le E0.lt (Nat.le_trans E2.1 (Keep.of_wr W6).1)) (Safe.wr W6 sf_4 (cr12).1 sf_4)
  refine Go.st (T' := T10) (g' := (mkF m 20 #[.val (.ref a1), .val (.ref b), .val (.int (0 : Int32)), .val (.int (0 : Int32)), .val .null, .unset] [(.ref l10), (.ref a1)])) (fun _ zk => st10 _ zk) ?_
  obtain ⟨T15, X15, e15, st15⟩ := getF X10 hx hZ hown (host := "") (Or.inl (w27 hw)) Via.refl e10 C10 (g := (mkF m 20 #[.val (.ref a1), .val (.ref b), .val (.int (0 : Int32)), .val (.int (0 : Int32)), .val .null, .unset] [(.ref l10), (.ref a1)])) rfl rfl (hb hby d3_20)
  refine Go.st (T' := T15) (g' := (mkF m 23 #[.val (.ref a1), .val (.ref b), .val (.int (0 : Int32)), .val (.int (0 : Int32)), .val .null, .unset] [(.int (0 : Int32)), (.ref a1)])) (fun _ zk => st15 _ zk) ?_
  have f17 := (((C0.ext E2).other W6 (Or.inr (slot_ne (Or.inr (w23 hw)) (Or.inr (w22 hw)) (by decide) (t := .byte) (t' := (.array .byte)) (by decide) (by decide)))).ext E10)
  have f18 := ((f9.wr W6).ext E10)
  obtain ⟨T16, h16, X16, e16, W16, st16⟩ := putF X15 hx hZ hown (host := "") (Or.inl (w27 hw)) Via.refl e15 f17 f18 (Or.inr ⟨(w23 hw), rfl, hnm⟩) (w8 hw) (v := (.int (0 : Int32))) (ty := .byte) (by decide) rfl rfl (g := (mkF m 23 #[.val (.ref a1), .val (.ref b), .val (.int (0 : Int32)), .val (.int (0 : Int32)), .val .null, .unset] [(.int (0 : Int32)), (.ref a1)])) rfl rfl (hb hby d3_23)
  have F16 := f17.same W16
  have N16 := Fr.snoc X16 N6 g0
  refine Go.st (T' := T16) (g' := (mkF m 26 #[.val (.ref a1), .val (.ref b), .val (.int (0 : Int32)), .val (.int (0 : Int32)), .val .null, .unset] [])) (fun _ zk => st16 _ zk) ?_
  have f19 := ((F6.ext E10).other W16 (Or.inr (slot_ne (Or.inr (w22 hw)) (Or.inr (w23 hw)) (by decide) (t := (.array .byte)) (t' := .byte) (by decide) (by decide))))
  have f20 := (((V2.other W6 (Ne.symm (sf2 a1 sf_4).2)).ext E10).other W16 (Ne.symm (sf2 a1 sf_4).2))
  have cr21 := (chrW ca13 W16 sf_14)
  refine Go.retVS X16 hx hlk hS (Nat.le_trans hk10 (Keep.of_wr W16).1) cr21 hZ hEL hret (hb hby d3_26) (by decide) (by decide) e16 ?_
  exact ⟨rfl, N16, (((((Keep.refl h0 [a1]).ext E2).wr W6 (Or.inl (List.mem_of_getElem? (i := 0) rfl))).ext E10).wr W16 (Or.inl (List.mem_of_getElem? (i := 0) rfl))), F16, lt2, _, f19, f20⟩
def rr_init1_0 : Room := { frames := 2, cells := 4, slots := 8, locals := 29 }
set_option maxRecDepth 65536 in
set_option maxHeartbeats 40000000 in
theorem rm_init1_0 (l : Launch) (Z : State) (a0 : Array Value) (hw : ∀ d ∈ tables_1, d.before a0 Z = true) (ws : List Jvm.Cond) (a1 b : Addr) (kC : ClassId) (h0 : Heap) (n0 : Nat) (Z0 : n0 ≤ h0.size) (E0 : Exa Z h0 a1 "java/lang/String") (g0 : n0 ≤ a1) (C0 : Fld Z h0 a1 "java/lang/String" "coder" "B" (.int (0 : Int32))) (V0 : Fld Z h0 a1 "java/lang/String" "value" "[B" .null) (VC : Arv Z h0 b kC .char (0 : Int32) [] (.int (0 : Int32))) :
    ConS l Z EL0 (⟨"java/lang/String", "<init>", "([C)V"⟩ : MethodName) jdk_42_method_3_code 2 none ws rr_init1_0 #[(.ref a1), (.ref b)] h0 [a1] (fun v h L => v = none ∧ Fr n0 L ∧ Keep h0 h [a1] ∧ Fld Z h a1 "java/lang/String" "coder" "B" (.int (0 : Int32)) ∧ ∃ (t : Addr) (k : ClassId), Fld Z h a1 "java/lang/String" "value" "[B" (.ref t) ∧ Arv Z h t k .byte (0 : Int32) [] (.int (0 : Int32))) := by
  refine ConS.enter (plainFor_of_name pn2) ?_
  intro p e s m below meth c s₁ X0 hx hZ hby hml hret hlk hown hnm e0 hS hA hsf
  have N0 := Fr.nil n0
  have hEL := hEL0 hw
  have hSt := hSt0 hw
  refine Go.cast (g' := (mkF m 0 #[.val (.ref a1), .val (.ref b)] [])) (by first | rfl | (simp [entryFrame, mkF, argsToLocals, Value.category]; done)) ?_
  refine Go.st (T' := s₁) (g' := (mkF m 1 #[.val (.ref a1), .val (.ref b)] [(.ref a1)])) (fun _ zk => XS.aloadN X0.here hx rfl (hb hby d2_0) rfl rfl zk) ?_
  refine Go.st (T' := s₁) (g' := (mkF m 2 #[.val (.ref a1), .val (.ref b)] [(.ref b), (.ref a1)])) (fun _ zk => XS.aloadN X0.here hx rfl (hb hby d2_1) rfl rfl zk) ?_
  refine Go.st (T' := s₁) (g' := (mkF m 3 #[.val (.ref a1), .val (.ref b)] [(.int (0 : Int32)), (.ref b), (.ref a1)])) (fun _ zk => XS.iconst X0.here hx rfl (hb hby d2_2) zk) ?_
  refine Go.st (T' := s₁) (g' := (mkF m 4 #[.val (.ref a1), .val (.ref b)] [(.ref b), (.int (0 : Int32)), (.ref b), (.ref a1)])) (fun _ zk => XS.aloadN X0.here hx rfl (hb hby d2_3) rfl rfl zk) ?_
  refine Go.st (T' := s₁) (g' := (mkF m 5 #[.val (.ref a1), .val (.ref b)] [(.int (0 : Int32)), (.int (0 : Int32)), (.ref b), (.ref a1)])) (fun _ zk => lenV X0 hx hZ e0 VC (g := (mkF m 4 #[.val (.ref a1), .val (.ref b)] [(.ref b), (.int (0 : Int32)), (.ref b), (.ref a1)])) rfl (rest := [(.int (0 : Int32)), (.ref b), (.ref a1)]) rfl (hb hby d2_4) zk) ?_
  refine Go.st (T' := s₁) (g' := (mkF m 6 #[.val (.ref a1), .val (.ref b)] [.null, (.int (0 : Int32)), (.int (0 : Int32)), (.ref b), (.ref a1)])) (fun _ zk => XS.aconstNull X0.here hx rfl (hb hby d2_5) zk) ?_
  refine Go.callSpS (y := (⟨"java/lang/String", "<init>", "([CIILjava/lang/Void;)V"⟩ : MethodName)) (a := a1) X0 hx hZ hown e0 hEL hA.1 hS (Nat.zero_le _) rfl (w13 hw) (w14 hw) (w9 hw) (w16 hw) (by decide) (argsL := [(.ref b), (.int (0 : Int32)), (.int (0 : Int32)), .null]) (rest := []) (W := 0) (rm_init4_0 l Z a0 hw [] a1 b kC h0 n0 Z0 E0 g0 C0 V0 VC) (allS (P := fun x => x < h0.size ∧ Safe Z EL0 s.vm h0 x) ⟨E0.lt, (hsf a1 (List.mem_of_getElem? (i := 0) rfl))⟩ all0) rfl (lenOf pd11 rfl) rfl (by rw [hml]; rfl) rfl (by show 2 * 0 + _ ≤ _; exact Nat.le_of_eq rfl) (by decide) (by decide) (by decide) (by decide) (hb hby d2_6) ?_
  intro v1 T1 h1 L1 X1 e1 q1 hS hZ hown cr1
  obtain ⟨hv1, Nf1, K1, C1, t1, k1, F1, V1⟩ := q1
  subst hv1
  have N1 := Fr.app N0 Nf1
  have ca2 := hA.trans cr1
  show Go p.tables e below _ T1 (mkF m 9 #[.val (.ref a1), .val (.ref b)] [])
  refine Go.retVS X1 hx hlk hS (Nat.le_refl _) ca2 hZ hEL hret (hb hby d2_9) (by decide) (by decide) e1 ?_
  exact ⟨rfl, N1, ((Keep.refl h0 [a1]).trans K1 (allS (P := fun x => x ∈ [a1] ∨ h0.size ≤ x) (Or.inl (List.mem_of_getElem? (i := 0) rfl)) all0)), C1, t1, _, F1, V1⟩
theorem own_lo1 {d k : Int32} (hk : 0 ≤ k.toInt ∧ k.toInt ≤ 127) (hd : 0 ≤ d.toInt ∧ d.toInt < 65536) (h2 : ¬ (255 : Int32) < d) (h : k = d.toInt8.toInt32) : d = k := by
  have q : ¬ (255 : Int32).toInt < d.toInt := fun z => h2 (Int32.lt_iff_toInt_lt.mpr z)
  have e : (255 : Int32).toInt = 255 := by decide
  have b := c_i2b d
  rw [← h] at b
  exact Int32.toInt_inj.mp (by omega)
theorem own_short {n : Nat} {ds xs : List Int32} {cd k : Int32} (hk : 0 ≤ k.toInt ∧ k.toInt ≤ 127) (He : Enc n ds xs cd) (hcs : ds.length = n) (hr : ∀ c ∈ ds, 0 ≤ c.toInt ∧ c.toInt < 65536) : (cd = 0 ∧ xs = [(45 : Int32), k]) ↔ (n = 2 ∧ ds.getD 0 0 = 45 ∧ ds.getD 1 0 = k) := by
  constructor
  · intro ⟨h0, hx⟩
    rcases He with ⟨-, hl, hle, hx0⟩ | ⟨h1, -⟩
    · have hn : n = 2 := by rw [← hl, hx]; rfl
      subst hn
      have a0 := hx0 0 (by decide)
      have a1 := hx0 1 (by decide)
      rw [hx] at a0 a1
      exact ⟨rfl, own_lo1 (k := 45) (by decide) (own_rg hr hcs (by decide)) (hle 0 (by decide)) a0, own_lo1 hk (own_rg hr hcs (by decide)) (hle 1 (by decide)) a1⟩
    · rw [h0] at h1; exact absurd h1 (by decide)
  · intro ⟨hn, e0, e1⟩
    subst hn
    have lk : ¬ (255 : Int32) < k := fun z => by
      have q := Int32.lt_iff_toInt_lt.mp z
      have e : (255 : Int32).toInt = 255 := by decide
      omega
    rcases He with ⟨h0, hl, hle, hx0⟩ | ⟨-, -, ⟨i, hi, hgt⟩, -⟩
    · refine ⟨h0, ?_⟩
      have a0 := hx0 0 (by decide)
      have a1 := hx0 1 (by decide)
      rw [e0] at a0
      rw [e1] at a1
      match xs, hl with
      | [p, q], _ =>
        have b0 : p = 45 := a0.trans (by decide)
        have b1 : q = k := a1.trans (i2b_id (by omega))
        rw [b0, b1]
    · exfalso
      have hh : i = 0 ∨ i = 1 := by omega
      rcases hh with rfl | rfl
      · rw [e0] at hgt; exact absurd hgt (by decide)
      · rw [e1] at hgt; exact lk hgt
theorem own_r {r : Int32} {P : Prop} (h : (r = 1 ∧ P) ∨ (r = 0 ∧ ¬ P)) (q : ¬ r = 0) : P := by
  rcases h with h | h
  · exact h.2
  · exact absurd h.1 q
theorem own_r0 {r : Int32} {P : Prop} (h : (r = 1 ∧ P) ∨ (r = 0 ∧ ¬ P)) (q : r = 0) : ¬ P := by
  rcases h with h | h
  · rw [h.1] at q; exact absurd q (by decide)
  · exact h.2
theorem own_p1 {A B : Prop} {w a b : Value} (h : (A ∧ w = a) ∨ (¬ A ∧ B ∧ w = b) ∨ (¬ A ∧ ¬ B ∧ w = .null)) (q : A) : w = a := by
  rcases h with h | h | h
  · exact h.2
  · exact absurd q h.1
  · exact absurd q h.1
theorem own_p2 {A B : Prop} {w a b : Value} (h : (A ∧ w = a) ∨ (¬ A ∧ B ∧ w = b) ∨ (¬ A ∧ ¬ B ∧ w = .null)) (q : ¬ A) (z : B) : w = b := by
  rcases h with h | h | h
  · exact absurd h.1 q
  · exact h.2.2
  · exact absurd z h.2.1
theorem own_p3 {A B : Prop} {w a b : Value} (h : (A ∧ w = a) ∨ (¬ A ∧ B ∧ w = b) ∨ (¬ A ∧ ¬ B ∧ w = .null)) (q : ¬ A) (z : ¬ B) : w = .null := by
  rcases h with h | h | h
  · exact absurd h.1 q
  · exact absurd h.2.1 z
  · exact h.2.2
theorem own_c16 (x : Int32) : 0 ≤ (x.toUInt32.toUInt16.toUInt32.toInt32).toInt ∧ (x.toUInt32.toUInt16.toUInt32.toInt32).toInt < 65536 := (c_i2c x).2
theorem own_pp (x : Int32) : 0 ≤ (x &&& 2147483647).toInt := by
  have h := c_mask x 2147483647 31 (by decide) (by decide)
  omega
theorem own_md {p k : Int32} (h : 0 ≤ p.toInt) (hk : 0 < k.toInt ∧ k.toInt ≤ 9) : ¬ p % k < 0 ∧ p % k < 10 := by
  have q := (c_irem p k k.toInt rfl).1 h
  have a := Int.emod_nonneg p.toInt (b := k.toInt) (by omega)
  have b := Int.emod_lt_of_pos p.toInt (b := k.toInt) (by omega)
  have e0 : (0 : Int32).toInt = 0 := by decide
  have e1 : (10 : Int32).toInt = 10 := by decide
  constructor <;> rw [Int32.lt_iff_toInt_lt] <;> omega
theorem own_mdn {j : Int32} (h : ¬ j < 0 ∧ j < 10) : j.toNatClampNeg < 10 := by
  have q := Int32.lt_iff_toInt_lt.mp h.2
  have e1 : (10 : Int32).toInt = 10 := by decide
  simp only [Int32.toNatClampNeg]
  omega
theorem own_setr {xs : List Int32} {i : Nat} {x : Int32} {P : Int32 → Prop} (h : ∀ c ∈ xs, P c) (hx : P x) : ∀ c ∈ xs.set i x, P c := by
  intro c hc
  rcases List.mem_or_eq_of_mem_set hc with q | q
  · exact h c q
  · rw [q]; exact hx
theorem d8_0 : decode prog_5_method_1_code 0 = .ok (.getstatic 10, 3) := by decide +kernel
theorem w50 {a0 : Array Value} {Z : State} (hw : ∀ d ∈ tables_1, d.before a0 Z = true) : ((Jvm.Cond.fieldLink "com/example/tierbook/tierbook/cli/Flag" (10 : Nat) "com/example/tierbook/tierbook/cli/Flag" "$VALUES" "[Lcom/example/tierbook/tierbook/cli/Flag;")).before a0 Z = true := hw _ (List.mem_of_getElem? (i := 50) rfl)
theorem w52 {a0 : Array Value} {Z : State} (hw : ∀ d ∈ tables_1, d.before a0 Z = true) : ((Jvm.Cond.methodLink "com/example/tierbook/tierbook/cli/Flag" (14 : Nat) ({ cls := "[Lcom/example/tierbook/tierbook/cli/Flag;", name := "clone", desc := "()Ljava/lang/Object;" } : Jvm.MethodName))).before a0 Z = true := hw _ (List.mem_of_getElem? (i := 52) rfl)
theorem w53 {a0 : Array Value} {Z : State} (hw : ∀ d ∈ tables_1, d.before a0 Z = true) : ((Jvm.Cond.sameMethod "[Lcom/example/tierbook/tierbook/cli/Flag;" "java/lang/Object" "clone" "()Ljava/lang/Object;")).before a0 Z = true := hw _ (List.mem_of_getElem? (i := 53) rfl)
theorem w57 {a0 : Array Value} {Z : State} (hw : ∀ d ∈ tables_1, d.before a0 Z = true) : ((Jvm.Cond.native ({ cls := "java/lang/Object", name := "clone", desc := "()Ljava/lang/Object;" } : Jvm.MethodName))).before a0 Z = true := hw _ (List.mem_of_getElem? (i := 57) rfl)
theorem w55 {a0 : Array Value} {Z : State} (hw : ∀ d ∈ tables_1, d.before a0 Z = true) : ((Jvm.Cond.instanceMethod ({ cls := "java/lang/Object", name := "clone", desc := "()Ljava/lang/Object;" } : Jvm.MethodName))).before a0 Z = true := hw _ (List.mem_of_getElem? (i := 55) rfl)
theorem w56 {a0 : Array Value} {Z : State} (hw : ∀ d ∈ tables_1, d.before a0 Z = true) : ((Jvm.Cond.selects "[Lcom/example/tierbook/tierbook/cli/Flag;" ({ cls := "[Lcom/example/tierbook/tierbook/cli/Flag;", name := "clone", desc := "()Ljava/lang/Object;" } : Jvm.MethodName) ({ cls := "java/lang/Object", name := "clone", desc := "()Ljava/lang/Object;" } : Jvm.MethodName))).before a0 Z = true := hw _ (List.mem_of_getElem? (i := 56) rfl)
theorem w58 {a0 : Array Value} {Z : State} (hw : ∀ d ∈ tables_1, d.before a0 Z = true) : ((Jvm.Cond.castable "[Lcom/example/tierbook/tierbook/cli/Flag;" "java/lang/Cloneable")).before a0 Z = true := hw _ (List.mem_of_getElem? (i := 58) rfl)
theorem d8_3 : decode prog_5_method_1_code 3 = .ok (.invokevirtual 14, 3) := by decide +kernel
theorem d8_6 : decode prog_5_method_1_code 6 = .ok (.checkcast 15, 3) := by decide +kernel
theorem w62 {a0 : Array Value} {Z : State} (hw : ∀ d ∈ tables_1, d.before a0 Z = true) : ((Jvm.Cond.classLink "com/example/tierbook/tierbook/cli/Flag" (15 : Nat) "[Lcom/example/tierbook/tierbook/cli/Flag;")).before a0 Z = true := hw _ (List.mem_of_getElem? (i := 62) rfl)
theorem d8_9 : decode prog_5_method_1_code 9 = .ok (.areturn, 1) := by decide +kernel
def rr_values : Room := { frames := 1, cells := 1, slots := 2, locals := 14 }
theorem pn19 : plainName "com/example/tierbook/tierbook/cli/Flag" = true := by first | (simp [plainName, overriddenIn]; done) | decide +kernel
set_option maxRecDepth 65536 in
set_option maxHeartbeats 40000000 in
theorem rm_values (l : Launch) (Z : State) (a0 : Array Value) (hw : ∀ d ∈ tables_1, d.before a0 Z = true) (ws : List Jvm.Cond) (vA pA rA : Addr) (kV : ClassId) (h0 : Heap) (n0 : Nat) (Z0 : n0 ≤ h0.size) (O0 : Old Z n0 h0) (SV : Sta Z Z.heap "com/example/tierbook/tierbook/cli/Flag" "$VALUES" "[Lcom/example/tierbook/tierbook/cli/Flag;" (.ref vA)) (EV : Exa Z Z.heap vA "[Lcom/example/tierbook/tierbook/cli/Flag;") (FV : Arv Z Z.heap vA kV (.object "com/example/tierbook/tierbook/cli/Flag") 2 [.ref pA, .ref rA] .null) :
    Con l Z (⟨"com/example/tierbook/tierbook/cli/Flag", "values", "()[Lcom/example/tierbook/tierbook/cli/Flag;"⟩ : MethodName) prog_5_method_1_code 0 (some (.array (.object "com/example/tierbook/tierbook/cli/Flag"))) ws rr_values #[] h0 (fun v h L => ∃ b : Addr, v = some (.ref b) ∧ Fr n0 L ∧ Ext h0 h ∧ h0.size ≤ b ∧ Arv Z h b kV (.object "com/example/tierbook/tierbook/cli/Flag") 2 [.ref pA, .ref rA] .null) := by
  refine Con.enter (plainFor_of_name pn19) ?_
  intro p e s m below meth c s₁ X0 hx hZ hby hml hret hlk hown hnm e0
  have N0 := Fr.nil n0
  refine Go.cast (g' := (mkF m 0 #[] [])) (by first | rfl | (simp [entryFrame, mkF, argsToLocals, Value.category]; done)) ?_
  obtain ⟨T1, X1, e1, st1⟩ := getS2 X0 hx hZ hown (host := "") (Or.inl (w50 hw)) Via.refl e0 (SV.ext O0.2) (g := (mkF m 0 #[] [])) rfl (hb hby d8_0)
  refine Go.st (T' := T1) (g' := (mkF m 3 #[] [(.ref vA)])) (fun _ zk => st1 _ zk) ?_
  obtain ⟨T2, h2, X2, e2, E2, V2, A2, st2⟩ := cloneH X1 hx hZ hown (w52 hw) (w53 hw) (w57 hw) (w55 hw) (w56 hw) (w58 hw) e1 (FV.ext O0.2).arh (EV.ext O0.2) (g := (mkF m 3 #[] [(.ref vA)])) rfl (by rw [hml]; rfl) rfl (hb hby d8_3) (by decide) (W := 0) (by show 2 * 0 + _ ≤ _; exact Nat.le_of_eq rfl) (by decide) (cap := 2) (by decide) (by decide) (by decide)
  obtain ⟨b2, g2⟩ : ∃ z, z = h0.size := ⟨_, rfl⟩
  rw [← g2] at A2 V2 st2
  have V2' : Arv Z h2 b2 kV (.object "com/example/tierbook/tierbook/cli/Flag") 2 [.ref pA, .ref rA] .null := V2
  refine Go.st (T' := T2) (g' := (mkF m 6 #[] [(.ref b2)])) (fun _ zk => st2 _ zk) ?_
  obtain ⟨T3, X3, e3, st3⟩ := castY X2 hx hZ hown (w62 hw) e2 (Ins.self A2) (g := (mkF m 6 #[] [(.ref b2)])) rfl rfl (hb hby d8_6)
  refine Go.st (T' := T3) (g' := (mkF m 9 #[] [(.ref b2)])) (fun _ zk => st3 _ zk) ?_
  have xt4 : Ext h0 h2 := E2
  refine Go.retA X3 hx hlk hret rfl rfl (hb hby d8_9) (by decide) (by decide) e3 ?_
  exact ⟨_, rfl, N0, xt4, (Nat.le_trans (Nat.le_refl _) (Nat.le_of_eq g2.symm)), V2'⟩
theorem w49 {a0 : Array Value} {Z : State} (hw : ∀ d ∈ tables_1, d.before a0 Z = true) : ((Jvm.Cond.code ({ cls := "com/example/tierbook/tierbook/cli/Flag", name := "values", desc := "()[Lcom/example/tierbook/tierbook/cli/Flag;" } : Jvm.MethodName) prog_5_method_1_code (0 : Nat) (Option.some (Jvm.ClassFile.FieldType.array (Jvm.ClassFile.FieldType.object "com/example/tierbook/tierbook/cli/Flag"))))).before a0 Z = true := hw _ (List.mem_of_getElem? (i := 49) rfl)
theorem w45 {a0 : Array Value} {Z : State} (hw : ∀ d ∈ tables_1, d.before a0 Z = true) : ((Jvm.Cond.initialized "com/example/tierbook/tierbook/cli/Flag")).before a0 Z = true := hw _ (List.mem_of_getElem? (i := 45) rfl)
theorem pd20 : parseMethodDescriptor "()[Lcom/example/tierbook/tierbook/cli/Flag;" = some ⟨[], some (.array (.object "com/example/tierbook/tierbook/cli/Flag"))⟩ := by decide +kernel
theorem d7_0 : decode prog_5_method_4_code 0 = .ok (.invokestatic 40, 3) := by decide +kernel
theorem w47 {a0 : Array Value} {Z : State} (hw : ∀ d ∈ tables_1, d.before a0 Z = true) : ((Jvm.Cond.methodLink "com/example/tierbook/tierbook/cli/Flag" (40 : Nat) ({ cls := "com/example/tierbook/tierbook/cli/Flag", name := "values", desc := "()[Lcom/example/tierbook/tierbook/cli/Flag;" } : Jvm.MethodName))).before a0 Z = true := hw _ (List.mem_of_getElem? (i := 47) rfl)
theorem w48 {a0 : Array Value} {Z : State} (hw : ∀ d ∈ tables_1, d.before a0 Z = true) : ((Jvm.Cond.static ({ cls := "com/example/tierbook/tierbook/cli/Flag", name := "values", desc := "()[Lcom/example/tierbook/tierbook/cli/Flag;" } : Jvm.MethodName))).before a0 Z = true := hw _ (List.mem_of_getElem? (i := 48) rfl)
theorem d7_3 : decode prog_5_method_4_code 3 = .ok (.astore_n 1, 1) := by decide +kernel
theorem d7_4 : decode prog_5_method_4_code 4 = .ok (.aload_n 1, 1) := by decide +kernel
theorem d7_5 : decode prog_5_method_4_code 5 = .ok (.arraylength, 1) := by decide +kernel
theorem d7_6 : decode prog_5_method_4_code 6 = .ok (.istore_n 2, 1) := by decide +kernel
theorem d7_7 : decode prog_5_method_4_code 7 = .ok (.iconst 0, 1) := by decide +kernel
theorem d7_8 : decode prog_5_method_4_code 8 = .ok (.istore_n 3, 1) := by decide +kernel
theorem d7_9 : decode prog_5_method_4_code 9 = .ok (.iload_n 3, 1) := by decide +kernel
theorem d7_10 : decode prog_5_method_4_code 10 = .ok (.iload_n 2, 1) := by decide +kernel
theorem d7_11 : decode prog_5_method_4_code 11 = .ok (.if_icmp .ge 60, 3) := by decide +kernel
theorem d7_14 : decode prog_5_method_4_code 14 = .ok (.aload_n 1, 1) := by decide +kernel
theorem d7_15 : decode prog_5_method_4_code 15 = .ok (.iload_n 3, 1) := by decide +kernel
theorem d7_16 : decode prog_5_method_4_code 16 = .ok (.aaload, 1) := by decide +kernel
theorem d7_17 : decode prog_5_method_4_code 17 = .ok (.astore 4, 2) := by decide +kernel
theorem d7_19 : decode prog_5_method_4_code 19 = .ok (.aload_n 0, 1) := by decide +kernel
theorem d7_20 : decode prog_5_method_4_code 20 = .ok (.aload 4, 2) := by decide +kernel
theorem d7_22 : decode prog_5_method_4_code 22 = .ok (.getfield 33, 3) := by decide +kernel
theorem w64 {a0 : Array Value} {Z : State} (hw : ∀ d ∈ tables_1, d.before a0 Z = true) : ((Jvm.Cond.fieldLink "com/example/tierbook/tierbook/cli/Flag" (33 : Nat) "com/example/tierbook/tierbook/cli/Flag" "name" "Ljava/lang/String;")).before a0 Z = true := hw _ (List.mem_of_getElem? (i := 64) rfl)
theorem w33 {a0 : Array Value} {Z : State} (hw : ∀ d ∈ tables_1, d.before a0 Z = true) : ((Jvm.Cond.code ({ cls := "java/lang/String", name := "equals", desc := "(Ljava/lang/Object;)Z" } : Jvm.MethodName) jdk_42_method_66_code (3 : Nat) (Option.some Jvm.ClassFile.FieldType.boolean))).before a0 Z = true := hw _ (List.mem_of_getElem? (i := 33) rfl)
theorem pd21 : parseMethodDescriptor "(Ljava/lang/Object;)Z" = some ⟨[(.object "java/lang/Object")], some .boolean⟩ := by decide +kernel
theorem d7_25 : decode prog_5_method_4_code 25 = .ok (.invokevirtual 44, 3) := by decide +kernel
theorem w32 {a0 : Array Value} {Z : State} (hw : ∀ d ∈ tables_1, d.before a0 Z = true) : ((Jvm.Cond.selects "java/lang/String" ({ cls := "java/lang/String", name := "equals", desc := "(Ljava/lang/Object;)Z" } : Jvm.MethodName) ({ cls := "java/lang/String", name := "equals", desc := "(Ljava/lang/Object;)Z" } : Jvm.MethodName))).before a0 Z = true := hw _ (List.mem_of_getElem? (i := 32) rfl)
theorem w31 {a0 : Array Value} {Z : State} (hw : ∀ d ∈ tables_1, d.before a0 Z = true) : ((Jvm.Cond.instanceMethod ({ cls := "java/lang/String", name := "equals", desc := "(Ljava/lang/Object;)Z" } : Jvm.MethodName))).before a0 Z = true := hw _ (List.mem_of_getElem? (i := 31) rfl)
theorem w66 {a0 : Array Value} {Z : State} (hw : ∀ d ∈ tables_1, d.before a0 Z = true) : ((Jvm.Cond.methodLink "com/example/tierbook/tierbook/cli/Flag" (44 : Nat) ({ cls := "java/lang/String", name := "equals", desc := "(Ljava/lang/Object;)Z" } : Jvm.MethodName))).before a0 Z = true := hw _ (List.mem_of_getElem? (i := 66) rfl)
theorem w30 {a0 : Array Value} {Z : State} (hw : ∀ d ∈ tables_1, d.before a0 Z = true) : ((Jvm.Cond.declares ({ cls := "java/lang/String", name := "equals", desc := "(Ljava/lang/Object;)Z" } : Jvm.MethodName))).before a0 Z = true := hw _ (List.mem_of_getElem? (i := 30) rfl)
theorem d7_28 : decode prog_5_method_4_code 28 = .ok (.ifCond .ne 34, 3) := by decide +kernel
theorem d7_31 : decode prog_5_method_4_code 31 = .ok (.aload_n 0, 1) := by decide +kernel
theorem w71 {a0 : Array Value} {Z : State} (hw : ∀ d ∈ tables_1, d.before a0 Z = true) : ((Jvm.Cond.code ({ cls := "java/lang/String", name := "length", desc := "()I" } : Jvm.MethodName) jdk_42_method_54_code (1 : Nat) (Option.some Jvm.ClassFile.FieldType.int))).before a0 Z = true := hw _ (List.mem_of_getElem? (i := 71) rfl)
theorem pd22 : parseMethodDescriptor "()I" = some ⟨[], some .int⟩ := by decide +kernel
theorem d7_32 : decode prog_5_method_4_code 32 = .ok (.invokevirtual 50, 3) := by decide +kernel
theorem w70 {a0 : Array Value} {Z : State} (hw : ∀ d ∈ tables_1, d.before a0 Z = true) : ((Jvm.Cond.selects "java/lang/String" ({ cls := "java/lang/String", name := "length", desc := "()I" } : Jvm.MethodName) ({ cls := "java/lang/String", name := "length", desc := "()I" } : Jvm.MethodName))).before a0 Z = true := hw _ (List.mem_of_getElem? (i := 70) rfl)
theorem w69 {a0 : Array Value} {Z : State} (hw : ∀ d ∈ tables_1, d.before a0 Z = true) : ((Jvm.Cond.instanceMethod ({ cls := "java/lang/String", name := "length", desc := "()I" } : Jvm.MethodName))).before a0 Z = true := hw _ (List.mem_of_getElem? (i := 69) rfl)
theorem w67 {a0 : Array Value} {Z : State} (hw : ∀ d ∈ tables_1, d.before a0 Z = true) : ((Jvm.Cond.methodLink "com/example/tierbook/tierbook/cli/Flag" (50 : Nat) ({ cls := "java/lang/String", name := "length", desc := "()I" } : Jvm.MethodName))).before a0 Z = true := hw _ (List.mem_of_getElem? (i := 67) rfl)
theorem w68 {a0 : Array Value} {Z : State} (hw : ∀ d ∈ tables_1, d.before a0 Z = true) : ((Jvm.Cond.declares ({ cls := "java/lang/String", name := "length", desc := "()I" } : Jvm.MethodName))).before a0 Z = true := hw _ (List.mem_of_getElem? (i := 68) rfl)
theorem d7_35 : decode prog_5_method_4_code 35 = .ok (.iconst 2, 1) := by decide +kernel
theorem d7_36 : decode prog_5_method_4_code 36 = .ok (.if_icmp .ne 29, 3) := by decide +kernel
theorem d7_39 : decode prog_5_method_4_code 39 = .ok (.aload_n 0, 1) := by decide +kernel
theorem d7_40 : decode prog_5_method_4_code 40 = .ok (.iconst 0, 1) := by decide +kernel
theorem w95 {a0 : Array Value} {Z : State} (hw : ∀ d ∈ tables_1, d.before a0 Z = true) : ((Jvm.Cond.code ({ cls := "java/lang/String", name := "charAt", desc := "(I)C" } : Jvm.MethodName) jdk_42_method_56_code (2 : Nat) (Option.some Jvm.ClassFile.FieldType.char))).before a0 Z = true := hw _ (List.mem_of_getElem? (i := 95) rfl)
theorem pd23 : parseMethodDescriptor "(I)C" = some ⟨[.int], some .char⟩ := by decide +kernel
theorem d7_41 : decode prog_5_method_4_code 41 = .ok (.invokevirtual 54, 3) := by decide +kernel
theorem w94 {a0 : Array Value} {Z : State} (hw : ∀ d ∈ tables_1, d.before a0 Z = true) : ((Jvm.Cond.selects "java/lang/String" ({ cls := "java/lang/String", name := "charAt", desc := "(I)C" } : Jvm.MethodName) ({ cls := "java/lang/String", name := "charAt", desc := "(I)C" } : Jvm.MethodName))).before a0 Z = true := hw _ (List.mem_of_getElem? (i := 94) rfl)
theorem w93 {a0 : Array Value} {Z : State} (hw : ∀ d ∈ tables_1, d.before a0 Z = true) : ((Jvm.Cond.instanceMethod ({ cls := "java/lang/String", name := "charAt", desc := "(I)C" } : Jvm.MethodName))).before a0 Z = true := hw _ (List.mem_of_getElem? (i := 93) rfl)
theorem w91 {a0 : Array Value} {Z : State} (hw : ∀ d ∈ tables_1, d.before a0 Z = true) : ((Jvm.Cond.methodLink "com/example/tierbook/tierbook/cli/Flag" (54 : Nat) ({ cls := "java/lang/String", name := "charAt", desc := "(I)C" } : Jvm.MethodName))).before a0 Z = true := hw _ (List.mem_of_getElem? (i := 91) rfl)
theorem w92 {a0 : Array Value} {Z : State} (hw : ∀ d ∈ tables_1, d.before a0 Z = true) : ((Jvm.Cond.declares ({ cls := "java/lang/String", name := "charAt", desc := "(I)C" } : Jvm.MethodName))).before a0 Z = true := hw _ (List.mem_of_getElem? (i := 92) rfl)
theorem d7_44 : decode prog_5_method_4_code 44 = .ok (.bipush 45, 2) := by decide +kernel
theorem d7_46 : decode prog_5_method_4_code 46 = .ok (.if_icmp .ne 19, 3) := by decide +kernel
theorem d7_49 : decode prog_5_method_4_code 49 = .ok (.aload_n 0, 1) := by decide +kernel
theorem d7_50 : decode prog_5_method_4_code 50 = .ok (.iconst 1, 1) := by decide +kernel
theorem d7_51 : decode prog_5_method_4_code 51 = .ok (.invokevirtual 54, 3) := by decide +kernel
theorem d7_54 : decode prog_5_method_4_code 54 = .ok (.aload 4, 2) := by decide +kernel
theorem d7_56 : decode prog_5_method_4_code 56 = .ok (.getfield 29, 3) := by decide +kernel
theorem w145 {a0 : Array Value} {Z : State} (hw : ∀ d ∈ tables_1, d.before a0 Z = true) : ((Jvm.Cond.fieldLink "com/example/tierbook/tierbook/cli/Flag" (29 : Nat) "com/example/tierbook/tierbook/cli/Flag" "letter" "C")).before a0 Z = true := hw _ (List.mem_of_getElem? (i := 145) rfl)
theorem d7_59 : decode prog_5_method_4_code 59 = .ok (.if_icmp .ne 6, 3) := by decide +kernel
theorem d7_62 : decode prog_5_method_4_code 62 = .ok (.aload 4, 2) := by decide +kernel
theorem d7_64 : decode prog_5_method_4_code 64 = .ok (.areturn, 1) := by decide +kernel
theorem d7_65 : decode prog_5_method_4_code 65 = .ok (.iinc 3 1, 3) := by decide +kernel
theorem d7_68 : decode prog_5_method_4_code 68 = .ok (.goto (-59), 3) := by decide +kernel
theorem d7_71 : decode prog_5_method_4_code 71 = .ok (.aconst_null, 1) := by decide +kernel
theorem d7_72 : decode prog_5_method_4_code 72 = .ok (.areturn, 1) := by decide +kernel
def rr_named : Room := { frames := 5, cells := 1, slots := 2, locals := 66 }
set_option maxRecDepth 65536 in
set_option maxHeartbeats 40000000 in
theorem rm_named (l : Launch) (Z : State) (a0 : Array Value) (hw : ∀ d ∈ tables_1, d.before a0 Z = true) (ws : List Jvm.Cond) (a : Addr) (ds xs : List Int32) (cd : Int32) (n : Nat) (zc : Int32) (fm : Value) (vA pA rA nH nV : Addr) (kV : ClassId) (h0 : Heap) (n0 : Nat) (Z0 : n0 ≤ h0.size) (O0 : Old Z n0 h0) (S1 : StrB Z h0 a cd xs) (He : Enc n ds xs cd) (hcs : ds.length = n) (hn : n < 2 ^ 30) (hr : ∀ c ∈ ds, 0 ≤ c.toInt ∧ c.toInt < 65536) (CS : Sta Z Z.heap "java/lang/String" "COMPACT_STRINGS" "Z" (.int zc)) (hz : ¬ zc = 0) (FM : Sta Z Z.heap "jdk/internal/util/Preconditions" "SIOOBE_FORMATTER" "Ljava/util/function/BiFunction;" fm) (rf : fm.isRef = true) (UA : Sta Z Z.heap "java/lang/StringUTF16" "$assertionsDisabled" "Z" (.int (1 : Int32))) (UH : Sta Z Z.heap "java/lang/StringUTF16" "HI_BYTE_SHIFT" "I" (.int (0 : Int32))) (UL : Sta Z Z.heap "java/lang/StringUTF16" "LO_BYTE_SHIFT" "I" (.int (8 : Int32))) (SV : Sta Z Z.heap "com/example/tierbook/tierbook/cli/Flag" "$VALUES" "[Lcom/example/tierbook/tierbook/cli/Flag;" (.ref vA)) (EV : Exa Z Z.heap vA "[Lcom/example/tierbook/tierbook/cli/Flag;") (FV : Arv Z Z.heap vA kV (.object "com/example/tierbook/tierbook/cli/Flag") 2 [.ref pA, .ref rA] .null) (LH : Fld Z Z.heap pA "com/example/tierbook/tierbook/cli/Flag" "letter" "C" (.int 104)) (LV : Fld Z Z.heap rA "com/example/tierbook/tierbook/cli/Flag" "letter" "C" (.int 86)) (NH : Fld Z Z.heap pA "com/example/tierbook/tierbook/cli/Flag" "name" "Ljava/lang/String;" (.ref nH)) (NV : Fld Z Z.heap rA "com/example/tierbook/tierbook/cli/Flag" "name" "Ljava/lang/String;" (.ref nV)) (SHs : StrB Z Z.heap nH 0 [(45 : Int32), (45 : Int32), (104 : Int32), (101 : Int32), (108 : Int32), (112 : Int32)]) (SVs : StrB Z Z.heap nV 0 [(45 : Int32), (45 : Int32), (118 : Int32), (101 : Int32), (114 : Int32), (115 : Int32), (105 : Int32), (111 : Int32), (110 : Int32)]) :
    Con l Z (⟨"com/example/tierbook/tierbook/cli/Flag", "named", "(Ljava/lang/String;)Lcom/example/tierbook/tierbook/cli/Flag;"⟩ : MethodName) prog_5_method_4_code 5 (some (.object "com/example/tierbook/tierbook/cli/Flag")) ws rr_named #[(.ref a)] h0 (fun v h L => ∃ w : Value, v = some w ∧ ((((cd = 0 ∧ xs = [(45 : Int32), (45 : Int32), (104 : Int32), (101 : Int32), (108 : Int32), (112 : Int32)]) ∨ (cd = 0 ∧ xs = [(45 : Int32), (104 : Int32)])) ∧ w = .ref pA) ∨ (¬ ((cd = 0 ∧ xs = [(45 : Int32), (45 : Int32), (104 : Int32), (101 : Int32), (108 : Int32), (112 : Int32)]) ∨ (cd = 0 ∧ xs = [(45 : Int32), (104 : Int32)])) ∧ ((cd = 0 ∧ xs = [(45 : Int32), (45 : Int32), (118 : Int32), (101 : Int32), (114 : Int32), (115 : Int32), (105 : Int32), (111 : Int32), (110 : Int32)]) ∨ (cd = 0 ∧ xs = [(45 : Int32), (86 : Int32)])) ∧ w = .ref rA) ∨ (¬ ((cd = 0 ∧ xs = [(45 : Int32), (45 : Int32), (104 : Int32), (101 : Int32), (108 : Int32), (112 : Int32)]) ∨ (cd = 0 ∧ xs = [(45 : Int32), (104 : Int32)])) ∧ ¬ ((cd = 0 ∧ xs = [(45 : Int32), (45 : Int32), (118 : Int32), (101 : Int32), (114 : Int32), (115 : Int32), (105 : Int32), (111 : Int32), (110 : Int32)]) ∨ (cd = 0 ∧ xs = [(45 : Int32), (86 : Int32)])) ∧ w = .null)) ∧ Fr n0 L ∧ Ext h0 h) := by
  refine Con.enter (plainFor_of_name pn19) ?_
  intro p e s m below meth c s₁ X0 hx hZ hby hml hret hlk hown hnm e0
  have N0 := Fr.nil n0
  refine Go.cast (g' := (mkF m 0 #[.val (.ref a), .unset, .unset, .unset, .unset] [])) (by first | rfl | (simp [entryFrame, mkF, argsToLocals, Value.category]; done)) ?_
  refine Go.callSt (y := (⟨"com/example/tierbook/tierbook/cli/Flag", "values", "()[Lcom/example/tierbook/tierbook/cli/Flag;"⟩ : MethodName)) X0 hx hZ hown e0 (w47 hw) (w48 hw) (w45 hw) (w49 hw) (by decide) (argsL := []) (rest := []) (W := 0) (rm_values l Z a0 hw [] vA pA rA kV h0 n0 Z0 O0 SV EV FV) rfl (lenOf pd20 rfl) rfl (by rw [hml]; rfl) rfl (by show 2 * 0 + _ ≤ _; exact Nat.le_of_eq rfl) (by decide) (by decide) (by decide) (by decide) (hb hby d7_0) ?_
  intro v1 T1 h1 L1 X1 e1 q1
  obtain ⟨b1, hv1, Nf1, E1, ge1, V1⟩ := q1
  subst hv1
  have N1 := Fr.app N0 Nf1
  show Go p.tables e below _ T1 (mkF m 3 #[.val (.ref a), .unset, .unset, .unset, .unset] [(.ref b1)])
  refine Go.st (T' := T1) (g' := (mkF m 4 #[.val (.ref a), .val (.ref b1), .unset, .unset, .unset] [])) (fun _ zk => XS.astoreN X1.here hx rfl (hb hby d7_3) rfl rfl (l' := #[.val (.ref a), .val (.ref b1), .unset, .unset, .unset]) rfl zk) ?_
  refine Go.st (T' := T1) (g' := (mkF m 5 #[.val (.ref a), .val (.ref b1), .unset, .unset, .unset] [(.ref b1)])) (fun _ zk => XS.aloadN X1.here hx rfl (hb hby d7_4) rfl rfl zk) ?_
  refine Go.st (T' := T1) (g' := (mkF m 6 #[.val (.ref a), .val (.ref b1), .unset, .unset, .unset] [(.int (2 : Int32))])) (fun _ zk => lenV X1 hx hZ e1 V1 (g := (mkF m 5 #[.val (.ref a), .val (.ref b1), .unset, .unset, .unset] [(.ref b1)])) rfl (rest := []) rfl (hb hby d7_5) zk) ?_
  refine Go.st (T' := T1) (g' := (mkF m 7 #[.val (.ref a), .val (.ref b1), .val (.int (2 : Int32)), .unset, .unset] [])) (fun _ zk => XS.istoreN X1.here hx rfl (hb hby d7_6) rfl (l' := #[.val (.ref a), .val (.ref b1), .val (.int (2 : Int32)), .unset, .unset]) rfl zk) ?_
  refine Go.st (T' := T1) (g' := (mkF m 8 #[.val (.ref a), .val (.ref b1), .val (.int (2 : Int32)), .unset, .unset] [(.int (0 : Int32))])) (fun _ zk => XS.iconst X1.here hx rfl (hb hby d7_7) zk) ?_
  refine Go.st (T' := T1) (g' := (mkF m 9 #[.val (.ref a), .val (.ref b1), .val (.int (2 : Int32)), .val (.int (0 : Int32)), .unset] [])) (fun _ zk => XS.istoreN X1.here hx rfl (hb hby d7_8) rfl (l' := #[.val (.ref a), .val (.ref b1), .val (.int (2 : Int32)), .val (.int (0 : Int32)), .unset]) rfl zk) ?_
  refine Go.st (T' := T1) (g' := (mkF m 10 #[.val (.ref a), .val (.ref b1), .val (.int (2 : Int32)), .val (.int (0 : Int32)), .unset] [(.int (0 : Int32))])) (fun _ zk => XS.iloadN X1.here hx rfl (hb hby d7_9) rfl zk) ?_
  refine Go.st (T' := T1) (g' := (mkF m 11 #[.val (.ref a), .val (.ref b1), .val (.int (2 : Int32)), .val (.int (0 : Int32)), .unset] [(.int (2 : Int32)), (.int (0 : Int32))])) (fun _ zk => XS.iloadN X1.here hx rfl (hb hby d7_10) rfl zk) ?_
  refine Go.st (T' := T1) (g' := (mkF m 14 #[.val (.ref a), .val (.ref b1), .val (.int (2 : Int32)), .val (.int (0 : Int32)), .unset] [])) (fun _ zk => XS.icmpNo X1.here hx rfl (hb hby d7_11) rfl (tlt ((by decide) : (0 : Int32) < (2 : Int32))).2.1 zk) ?_
  refine Go.st (T' := T1) (g' := (mkF m 15 #[.val (.ref a), .val (.ref b1), .val (.int (2 : Int32)), .val (.int (0 : Int32)), .unset] [(.ref b1)])) (fun _ zk => XS.aloadN X1.here hx rfl (hb hby d7_14) rfl rfl zk) ?_
  refine Go.st (T' := T1) (g' := (mkF m 16 #[.val (.ref a), .val (.ref b1), .val (.int (2 : Int32)), .val (.int (0 : Int32)), .unset] [(.int (0 : Int32)), (.ref b1)])) (fun _ zk => XS.iloadN X1.here hx rfl (hb hby d7_15) rfl zk) ?_
  refine Go.st (T' := T1) (g' := (mkF m 17 #[.val (.ref a), .val (.ref b1), .val (.int (2 : Int32)), .val (.int (0 : Int32)), .unset] [(.ref pA)])) (fun _ zk => ldRV X1 hx hZ e1 V1 (j := (0 : Int32)) ⟨by decide, by decide⟩ (v := (.ref pA)) rfl (g := (mkF m 16 #[.val (.ref a), .val (.ref b1), .val (.int (2 : Int32)), .val (.int (0 : Int32)), .unset] [(.int (0 : Int32)), (.ref b1)])) rfl (rest := []) rfl (hb hby d7_16) zk) ?_
  refine Go.st (T' := T1) (g' := (mkF m 19 #[.val (.ref a), .val (.ref b1), .val (.int (2 : Int32)), .val (.int (0 : Int32)), .val (.ref pA)] [])) (fun _ zk => XS.astore X1.here hx rfl (hb hby d7_17) rfl rfl (l' := #[.val (.ref a), .val (.ref b1), .val (.int (2 : Int32)), .val (.int (0 : Int32)), .val (.ref pA)]) rfl zk) ?_
  refine Go.st (T' := T1) (g' := (mkF m 20 #[.val (.ref a), .val (.ref b1), .val (.int (2 : Int32)), .val (.int (0 : Int32)), .val (.ref pA)] [(.ref a)])) (fun _ zk => XS.aloadN X1.here hx rfl (hb hby d7_19) rfl rfl zk) ?_
  refine Go.st (T' := T1) (g' := (mkF m 22 #[.val (.ref a), .val (.ref b1), .val (.int (2 : Int32)), .val (.int (0 : Int32)), .val (.ref pA)] [(.ref pA), (.ref a)])) (fun _ zk => XS.aload X1.here hx rfl (hb hby d7_20) rfl rfl zk) ?_
  have xt2 : Ext h0 h1 := E1
  have f3 := O0.ext xt2
  obtain ⟨T4, X4, e4, st4⟩ := getF X1 hx hZ hown (host := "") (Or.inl (w64 hw)) Via.refl e1 (NH.ext f3.2) (g := (mkF m 22 #[.val (.ref a), .val (.ref b1), .val (.int (2 : Int32)), .val (.int (0 : Int32)), .val (.ref pA)] [(.ref pA), (.ref a)])) rfl rfl (hb hby d7_22)
  refine Go.st (T' := T4) (g' := (mkF m 25 #[.val (.ref a), .val (.ref b1), .val (.int (2 : Int32)), .val (.int (0 : Int32)), .val (.ref pA)] [(.ref nH), (.ref a)])) (fun _ zk => st4 _ zk) ?_
  have f5 := S1.ext xt2
  have f7 := S1.exa.ext xt2
  refine Go.callV (y := (⟨"java/lang/String", "equals", "(Ljava/lang/Object;)Z"⟩ : MethodName)) (z := (⟨"java/lang/String", "equals", "(Ljava/lang/Object;)Z"⟩ : MethodName)) (C := "java/lang/String") (a := a) X4 hx hZ hown e4 (w66 hw) (w30 hw) (w32 hw) (w31 hw) (w9 hw) (w33 hw) (notFace_of_selects (args := #[]) (mvT hZ (w32 hw))) (by decide) f7 (argsL := [(.ref nH)]) (rest := []) (W := 0) (rm_eqStr l Z a0 hw [] a nH cd 0 zc xs [(45 : Int32), (45 : Int32), (104 : Int32), (101 : Int32), (108 : Int32), (112 : Int32)] h1 n0 (Nat.le_trans Z0 E1.1) f3 f5 (SHs.ext f3.2) (He.len hn) (by decide) CS hz) rfl (lenOf pd21 rfl) rfl (by rw [hml]; rfl) rfl (by show 2 * 0 + _ ≤ _; exact Nat.le_of_eq rfl) (by decide) (by decide) (by decide) (by decide) (hb hby d7_25) ?_
  intro v6 T6 h6 L6 X6 e6 q6
  obtain ⟨r6, hv6, hr6, Nf6, hh6⟩ := q6
  subst hv6
  have E6 : T6.heap = h1 := e6.trans hh6
  have N6 := Fr.app N1 Nf6
  show Go p.tables e below _ T6 (mkF m 28 #[.val (.ref a), .val (.ref b1), .val (.int (2 : Int32)), .val (.int (0 : Int32)), .val (.ref pA)] [(.int r6)])
  by_cases hc28 : r6 = (0 : Int32)
  · refine Go.st (T' := T6) (g' := (mkF m 31 #[.val (.ref a), .val (.ref b1), .val (.int (2 : Int32)), .val (.int (0 : Int32)), .val (.ref pA)] [])) (fun _ zk => XS.ifNo X6.here hx rfl (hb hby d7_28) rfl ((if0 _ _).trans (teq hc28).2) zk) ?_
    refine Go.st (T' := T6) (g' := (mkF m 32 #[.val (.ref a), .val (.ref b1), .val (.int (2 : Int32)), .val (.int (0 : Int32)), .val (.ref pA)] [(.ref a)])) (fun _ zk => XS.aloadN X6.here hx rfl (hb hby d7_31) rfl rfl zk) ?_
    refine Go.callV (y := (⟨"java/lang/String", "length", "()I"⟩ : MethodName)) (z := (⟨"java/lang/String", "length", "()I"⟩ : MethodName)) (C := "java/lang/String") (a := a) X6 hx hZ hown E6 (w67 hw) (w68 hw) (w70 hw) (w69 hw) (w9 hw) (w71 hw) (notFace_of_selects (args := #[]) (mvT hZ (w70 hw))) (by decide) f7 (argsL := []) (rest := []) (W := 0) (rm_lengthW l Z a0 hw [] a ds n zc h1 n0 (Nat.le_trans Z0 E1.1) f3 ⟨cd, xs, He, f5⟩ hn CS hz) rfl (lenOf pd22 rfl) rfl (by rw [hml]; rfl) rfl (by show 2 * 0 + _ ≤ _; exact Nat.le_of_eq rfl) (by decide) (by decide) (by decide) (by decide) (hb hby d7_32) ?_
    intro v8 T8 h8 L8 X8 e8 q8
    obtain ⟨hv8, Nf8, hh8⟩ := q8
    subst hv8
    have E8 : T8.heap = h1 := e8.trans hh8
    have N8 := Fr.app N6 Nf8
    show Go p.tables e below _ T8 (mkF m 35 #[.val (.ref a), .val (.ref b1), .val (.int (2 : Int32)), .val (.int (0 : Int32)), .val (.ref pA)] [(.int (Int32.ofNat n))])
    refine Go.st (T' := T8) (g' := (mkF m 36 #[.val (.ref a), .val (.ref b1), .val (.int (2 : Int32)), .val (.int (0 : Int32)), .val (.ref pA)] [(.int (2 : Int32)), (.int (Int32.ofNat n))])) (fun _ zk => XS.iconst X8.here hx rfl (hb hby d7_35) zk) ?_
    by_cases hc36 : (Int32.ofNat n) = (2 : Int32)
    · refine Go.st (T' := T8) (g' := (mkF m 39 #[.val (.ref a), .val (.ref b1), .val (.int (2 : Int32)), .val (.int (0 : Int32)), .val (.ref pA)] [])) (fun _ zk => XS.icmpNo X8.here hx rfl (hb hby d7_36) rfl (teq hc36).2 zk) ?_
      refine Go.st (T' := T8) (g' := (mkF m 40 #[.val (.ref a), .val (.ref b1), .val (.int (2 : Int32)), .val (.int (0 : Int32)), .val (.ref pA)] [(.ref a)])) (fun _ zk => XS.aloadN X8.here hx rfl (hb hby d7_39) rfl rfl zk) ?_
      refine Go.st (T' := T8) (g' := (mkF m 41 #[.val (.ref a), .val (.ref b1), .val (.int (2 : Int32)), .val (.int (0 : Int32)), .val (.ref pA)] [(.int (0 : Int32)), (.ref a)])) (fun _ zk => XS.iconst X8.here hx rfl (hb hby d7_40) zk) ?_
      have hn2 : n = 2 := own_ofinj (n := 2) (by omega) (by decide) hc36
      refine Go.callV (y := (⟨"java/lang/String", "charAt", "(I)C"⟩ : MethodName)) (z := (⟨"java/lang/String", "charAt", "(I)C"⟩ : MethodName)) (C := "java/lang/String") (a := a) X8 hx hZ hown E8 (w91 hw) (w92 hw) (w94 hw) (w93 hw) (w9 hw) (w95 hw) (notFace_of_selects (args := #[]) (mvT hZ (w94 hw))) (by decide) f7 (argsL := [(.int (0 : Int32))]) (rest := []) (W := 0) (rm_charAtW l Z a0 hw [] a ds n 0 zc fm h1 n0 (Nat.le_trans Z0 E1.1) f3 ⟨cd, xs, He, f5⟩ hcs hn hr (by omega) CS hz FM rf UA UH UL) rfl (lenOf pd23 rfl) rfl (by rw [hml]; rfl) rfl (by show 2 * 0 + _ ≤ _; exact Nat.le_of_eq rfl) (by decide) (by decide) (by decide) (by decide) (hb hby d7_41) ?_
      intro v9 T9 h9 L9 X9 e9 q9
      obtain ⟨hv9, Nf9, hh9⟩ := q9
      subst hv9
      have E9 : T9.heap = h1 := e9.trans hh9
      have N9 := Fr.app N8 Nf9
      show Go p.tables e below _ T9 (mkF m 44 #[.val (.ref a), .val (.ref b1), .val (.int (2 : Int32)), .val (.int (0 : Int32)), .val (.ref pA)] [(.int (ds.getD 0 0))])
      refine Go.st (T' := T9) (g' := (mkF m 46 #[.val (.ref a), .val (.ref b1), .val (.int (2 : Int32)), .val (.int (0 : Int32)), .val (.ref pA)] [(.int (45 : Int32)), (.int (ds.getD 0 0))])) (fun _ zk => XS.bipush X9.here hx rfl (hb hby d7_44) zk) ?_
      by_cases hc46 : (ds.getD 0 0) = (45 : Int32)
      · refine Go.st (T' := T9) (g' := (mkF m 49 #[.val (.ref a), .val (.ref b1), .val (.int (2 : Int32)), .val (.int (0 : Int32)), .val (.ref pA)] [])) (fun _ zk => XS.icmpNo X9.here hx rfl (hb hby d7_46) rfl (teq hc46).2 zk) ?_
        refine Go.st (T' := T9) (g' := (mkF m 50 #[.val (.ref a), .val (.ref b1), .val (.int (2 : Int32)), .val (.int (0 : Int32)), .val (.ref pA)] [(.ref a)])) (fun _ zk => XS.aloadN X9.here hx rfl (hb hby d7_49) rfl rfl zk) ?_
        refine Go.st (T' := T9) (g' := (mkF m 51 #[.val (.ref a), .val (.ref b1), .val (.int (2 : Int32)), .val (.int (0 : Int32)), .val (.ref pA)] [(.int (1 : Int32)), (.ref a)])) (fun _ zk => XS.iconst X9.here hx rfl (hb hby d7_50) zk) ?_
        refine Go.callV (y := (⟨"java/lang/String", "charAt", "(I)C"⟩ : MethodName)) (z := (⟨"java/lang/String", "charAt", "(I)C"⟩ : MethodName)) (C := "java/lang/String") (a := a) X9 hx hZ hown E9 (w91 hw) (w92 hw) (w94 hw) (w93 hw) (w9 hw) (w95 hw) (notFace_of_selects (args := #[]) (mvT hZ (w94 hw))) (by decide) f7 (argsL := [(.int (1 : Int32))]) (rest := []) (W := 0) (rm_charAtW l Z a0 hw [] a ds n 1 zc fm h1 n0 (Nat.le_trans Z0 E1.1) f3 ⟨cd, xs, He, f5⟩ hcs hn hr (by omega) CS hz FM rf UA UH UL) rfl (lenOf pd23 rfl) rfl (by rw [hml]; rfl) rfl (by show 2 * 0 + _ ≤ _; exact Nat.le_of_eq rfl) (by decide) (by decide) (by decide) (by decide) (hb hby d7_51) ?_
        intro v10 T10 h10 L10 X10 e10 q10
        obtain ⟨hv10, Nf10, hh10⟩ := q10
        subst hv10
        have E10 : T10.heap = h1 := e10.trans hh10
        have N10 := Fr.app N9 Nf10
        show Go p.tables e below _ T10 (mkF m 54 #[.val (.ref a), .val (.ref b1), .val (.int (2 : Int32)), .val (.int (0 : Int32)), .val (.ref pA)] [(.int (ds.getD 1 0))])
        refine Go.st (T' := T10) (g' := (mkF m 56 #[.val (.ref a), .val (.ref b1), .val (.int (2 : Int32)), .val (.int (0 : Int32)), .val (.ref pA)] [(.ref pA), (.int (ds.getD 1 0))])) (fun _ zk => XS.aload X10.here hx rfl (hb hby d7_54) rfl rfl zk) ?_
        obtain ⟨T11, X11, e11, st11⟩ := getF X10 hx hZ hown (host := "") (Or.inl (w145 hw)) Via.refl E10 (LH.ext f3.2) (g := (mkF m 56 #[.val (.ref a), .val (.ref b1), .val (.int (2 : Int32)), .val (.int (0 : Int32)), .val (.ref pA)] [(.ref pA), (.int (ds.getD 1 0))])) rfl rfl (hb hby d7_56)
        refine Go.st (T' := T11) (g' := (mkF m 59 #[.val (.ref a), .val (.ref b1), .val (.int (2 : Int32)), .val (.int (0 : Int32)), .val (.ref pA)] [(.int (104 : Int32)), (.int (ds.getD 1 0))])) (fun _ zk => st11 _ zk) ?_
        by_cases hc59 : (ds.getD 1 0) = (104 : Int32)
        · refine Go.st (T' := T11) (g' := (mkF m 62 #[.val (.ref a), .val (.ref b1), .val (.int (2 : Int32)), .val (.int (0 : Int32)), .val (.ref pA)] [])) (fun _ zk => XS.icmpNo X11.here hx rfl (hb hby d7_59) rfl (teq hc59).2 zk) ?_
          refine Go.st (T' := T11) (g' := (mkF m 64 #[.val (.ref a), .val (.ref b1), .val (.int (2 : Int32)), .val (.int (0 : Int32)), .val (.ref pA)] [(.ref pA)])) (fun _ zk => XS.aload X11.here hx rfl (hb hby d7_62) rfl rfl zk) ?_
          refine Go.retA X11 hx hlk hret rfl rfl (hb hby d7_64) (by decide) (by decide) e11 ?_
          exact ⟨_, rfl, Or.inl ⟨(Or.inr ((own_short (k := 104) (by decide) He hcs hr).mpr ⟨hn2, hc46, hc59⟩)), rfl⟩, N10, xt2⟩
        · refine Go.st (T' := T11) (g' := (mkF m 65 #[.val (.ref a), .val (.ref b1), .val (.int (2 : Int32)), .val (.int (0 : Int32)), .val (.ref pA)] [])) (fun _ zk => XS.icmpYes X11.here hx rfl (pc0 := 59) (pc' := 65) rfl (hb hby d7_59) rfl (feq hc59).2 (by decide) (by decide) zk) ?_
          refine Go.st (T' := T11) (g' := (mkF m 68 #[.val (.ref a), .val (.ref b1), .val (.int (2 : Int32)), .val (.int ((0 : Int32) + (1 : Int32))), .val (.ref pA)] [])) (fun _ zk => XS.iinc X11.here hx rfl (hb hby d7_65) rfl (l' := #[.val (.ref a), .val (.ref b1), .val (.int (2 : Int32)), .val (.int ((0 : Int32) + (1 : Int32))), .val (.ref pA)]) rfl zk) ?_
          rw [show ((0 : Int32) + (1 : Int32)) = (1 : Int32) from by decide]
          refine Go.st (T' := T11) (g' := (mkF m 9 #[.val (.ref a), .val (.ref b1), .val (.int (2 : Int32)), .val (.int (1 : Int32)), .val (.ref pA)] [])) (fun _ zk => XS.goto X11.here hx rfl (pc0 := 68) (pc' := 9) rfl (hb hby d7_68) (by decide) (by decide) zk) ?_
          refine Go.st (T' := T11) (g' := (mkF m 10 #[.val (.ref a), .val (.ref b1), .val (.int (2 : Int32)), .val (.int (1 : Int32)), .val (.ref pA)] [(.int (1 : Int32))])) (fun _ zk => XS.iloadN X11.here hx rfl (hb hby d7_9) rfl zk) ?_
          refine Go.st (T' := T11) (g' := (mkF m 11 #[.val (.ref a), .val (.ref b1), .val (.int (2 : Int32)), .val (.int (1 : Int32)), .val (.ref pA)] [(.int (2 : Int32)), (.int (1 : Int32))])) (fun _ zk => XS.iloadN X11.here hx rfl (hb hby d7_10) rfl zk) ?_
          refine Go.st (T' := T11) (g' := (mkF m 14 #[.val (.ref a), .val (.ref b1), .val (.int (2 : Int32)), .val (.int (1 : Int32)), .val (.ref pA)] [])) (fun _ zk => XS.icmpNo X11.here hx rfl (hb hby d7_11) rfl (tlt ((by decide) : (1 : Int32) < (2 : Int32))).2.1 zk) ?_
          refine Go.st (T' := T11) (g' := (mkF m 15 #[.val (.ref a), .val (.ref b1), .val (.int (2 : Int32)), .val (.int (1 : Int32)), .val (.ref pA)] [(.ref b1)])) (fun _ zk => XS.aloadN X11.here hx rfl (hb hby d7_14) rfl rfl zk) ?_
          refine Go.st (T' := T11) (g' := (mkF m 16 #[.val (.ref a), .val (.ref b1), .val (.int (2 : Int32)), .val (.int (1 : Int32)), .val (.ref pA)] [(.int (1 : Int32)), (.ref b1)])) (fun _ zk => XS.iloadN X11.here hx rfl (hb hby d7_15) rfl zk) ?_
          refine Go.st (T' := T11) (g' := (mkF m 17 #[.val (.ref a), .val (.ref b1), .val (.int (2 : Int32)), .val (.int (1 : Int32)), .val (.ref pA)] [(.ref rA)])) (fun _ zk => ldRV X11 hx hZ e11 V1 (j := (1 : Int32)) ⟨by decide, by decide⟩ (v := (.ref rA)) rfl (g := (mkF m 16 #[.val (.ref a), .val (.ref b1), .val (.int (2 : Int32)), .val (.int (1 : Int32)), .val (.ref pA)] [(.int (1 : Int32)), (.ref b1)])) rfl (rest := []) rfl (hb hby d7_16) zk) ?_
          refine Go.st (T' := T11) (g' := (mkF m 19 #[.val (.ref a), .val (.ref b1), .val (.int (2 : Int32)), .val (.int (1 : Int32)), .val (.ref rA)] [])) (fun _ zk => XS.astore X11.here hx rfl (hb hby d7_17) rfl rfl (l' := #[.val (.ref a), .val (.ref b1), .val (.int (2 : Int32)), .val (.int (1 : Int32)), .val (.ref rA)]) rfl zk) ?_
          refine Go.st (T' := T11) (g' := (mkF m 20 #[.val (.ref a), .val (.ref b1), .val (.int (2 : Int32)), .val (.int (1 : Int32)), .val (.ref rA)] [(.ref a)])) (fun _ zk => XS.aloadN X11.here hx rfl (hb hby d7_19) rfl rfl zk) ?_
          refine Go.st (T' := T11) (g' := (mkF m 22 #[.val (.ref a), .val (.ref b1), .val (.int (2 : Int32)), .val (.int (1 : Int32)), .val (.ref rA)] [(.ref rA), (.ref a)])) (fun _ zk => XS.aload X11.here hx rfl (hb hby d7_20) rfl rfl zk) ?_
          obtain ⟨T12, X12, e12, st12⟩ := getF X11 hx hZ hown (host := "") (Or.inl (w64 hw)) Via.refl e11 (NV.ext f3.2) (g := (mkF m 22 #[.val (.ref a), .val (.ref b1), .val (.int (2 : Int32)), .val (.int (1 : Int32)), .val (.ref rA)] [(.ref rA), (.ref a)])) rfl rfl (hb hby d7_22)
          refine Go.st (T' := T12) (g' := (mkF m 25 #[.val (.ref a), .val (.ref b1), .val (.int (2 : Int32)), .val (.int (1 : Int32)), .val (.ref rA)] [(.ref nV), (.ref a)])) (fun _ zk => st12 _ zk) ?_
          refine Go.callV (y := (⟨"java/lang/String", "equals", "(Ljava/lang/Object;)Z"⟩ : MethodName)) (z := (⟨"java/lang/String", "equals", "(Ljava/lang/Object;)Z"⟩ : MethodName)) (C := "java/lang/String") (a := a) X12 hx hZ hown e12 (w66 hw) (w30 hw) (w32 hw) (w31 hw) (w9 hw) (w33 hw) (notFace_of_selects (args := #[]) (mvT hZ (w32 hw))) (by decide) f7 (argsL := [(.ref nV)]) (rest := []) (W := 0) (rm_eqStr l Z a0 hw [] a nV cd 0 zc xs [(45 : Int32), (45 : Int32), (118 : Int32), (101 : Int32), (114 : Int32), (115 : Int32), (105 : Int32), (111 : Int32), (110 : Int32)] h1 n0 (Nat.le_trans Z0 E1.1) f3 f5 (SVs.ext f3.2) (He.len hn) (by decide) CS hz) rfl (lenOf pd21 rfl) rfl (by rw [hml]; rfl) rfl (by show 2 * 0 + _ ≤ _; exact Nat.le_of_eq rfl) (by decide) (by decide) (by decide) (by decide) (hb hby d7_25) ?_
          intro v13 T13 h13 L13 X13 e13 q13
          obtain ⟨r13, hv13, hr13, Nf13, hh13⟩ := q13
          subst hv13
          have E13 : T13.heap = h1 := e13.trans hh13
          have N13 := Fr.app N10 Nf13
          show Go p.tables e below _ T13 (mkF m 28 #[.val (.ref a), .val (.ref b1), .val (.int (2 : Int32)), .val (.int (1 : Int32)), .val (.ref rA)] [(.int r13)])
          by_cases hc28' : r13 = (0 : Int32)
          · refine Go.st (T' := T13) (g' := (mkF m 31 #[.val (.ref a), .val (.ref b1), .val (.int (2 : Int32)), .val (.int (1 : Int32)), .val (.ref rA)] [])) (fun _ zk => XS.ifNo X13.here hx rfl (hb hby d7_28) rfl ((if0 _ _).trans (teq hc28').2) zk) ?_
            refine Go.st (T' := T13) (g' := (mkF m 32 #[.val (.ref a), .val (.ref b1), .val (.int (2 : Int32)), .val (.int (1 : Int32)), .val (.ref rA)] [(.ref a)])) (fun _ zk => XS.aloadN X13.here hx rfl (hb hby d7_31) rfl rfl zk) ?_
            refine Go.callV (y := (⟨"java/lang/String", "length", "()I"⟩ : MethodName)) (z := (⟨"java/lang/String", "length", "()I"⟩ : MethodName)) (C := "java/lang/String") (a := a) X13 hx hZ hown E13 (w67 hw) (w68 hw) (w70 hw) (w69 hw) (w9 hw) (w71 hw) (notFace_of_selects (args := #[]) (mvT hZ (w70 hw))) (by decide) f7 (argsL := []) (rest := []) (W := 0) (rm_lengthW l Z a0 hw [] a ds n zc h1 n0 (Nat.le_trans Z0 E1.1) f3 ⟨cd, xs, He, f5⟩ hn CS hz) rfl (lenOf pd22 rfl) rfl (by rw [hml]; rfl) rfl (by show 2 * 0 + _ ≤ _; exact Nat.le_of_eq rfl) (by decide) (by decide) (by decide) (by decide) (hb hby d7_32) ?_
            intro v14 T14 h14 L14 X14 e14 q14
            obtain ⟨hv14, Nf14, hh14⟩ := q14
            subst hv14
            have E14 : T14.heap = h1 := e14.trans hh14
            have N14 := Fr.app N13 Nf14
            show Go p.tables e below _ T14 (mkF m 35 #[.val (.ref a), .val (.ref b1), .val (.int (2 : Int32)), .val (.int (1 : Int32)), .val (.ref rA)] [(.int (Int32.ofNat n))])
            refine Go.st (T' := T14) (g' := (mkF m 36 #[.val (.ref a), .val (.ref b1), .val (.int (2 : Int32)), .val (.int (1 : Int32)), .val (.ref rA)] [(.int (2 : Int32)), (.int (Int32.ofNat n))])) (fun _ zk => XS.iconst X14.here hx rfl (hb hby d7_35) zk) ?_
            refine Go.st (T' := T14) (g' := (mkF m 39 #[.val (.ref a), .val (.ref b1), .val (.int (2 : Int32)), .val (.int (1 : Int32)), .val (.ref rA)] [])) (fun _ zk => XS.icmpNo X14.here hx rfl (hb hby d7_36) rfl (teq (hc36 : (Int32.ofNat n) = (2 : Int32))).2 zk) ?_
            refine Go.st (T' := T14) (g' := (mkF m 40 #[.val (.ref a), .val (.ref b1), .val (.int (2 : Int32)), .val (.int (1 : Int32)), .val (.ref rA)] [(.ref a)])) (fun _ zk => XS.aloadN X14.here hx rfl (hb hby d7_39) rfl rfl zk) ?_
            refine Go.st (T' := T14) (g' := (mkF m 41 #[.val (.ref a), .val (.ref b1), .val (.int (2 : Int32)), .val (.int (1 : Int32)), .val (.ref rA)] [(.int (0 : Int32)), (.ref a)])) (fun _ zk => XS.iconst X14.here hx rfl (hb hby d7_40) zk) ?_
            refine Go.callV (y := (⟨"java/lang/String", "charAt", "(I)C"⟩ : MethodName)) (z := (⟨"java/lang/String", "charAt", "(I)C"⟩ : MethodName)) (C := "java/lang/String") (a := a) X14 hx hZ hown E14 (w91 hw) (w92 hw) (w94 hw) (w93 hw) (w9 hw) (w95 hw) (notFace_of_selects (args := #[]) (mvT hZ (w94 hw))) (by decide) f7 (argsL := [(.int (0 : Int32))]) (rest := []) (W := 0) (rm_charAtW l Z a0 hw [] a ds n 0 zc fm h1 n0 (Nat.le_trans Z0 E1.1) f3 ⟨cd, xs, He, f5⟩ hcs hn hr (by omega) CS hz FM rf UA UH UL) rfl (lenOf pd23 rfl) rfl (by rw [hml]; rfl) rfl (by show 2 * 0 + _ ≤ _; exact Nat.le_of_eq rfl) (by decide) (by decide) (by decide) (by decide) (hb hby d7_41) ?_
            intro v15 T15 h15 L15 X15 e15 q15
            obtain ⟨hv15, Nf15, hh15⟩ := q15
            subst hv15
            have E15 : T15.heap = h1 := e15.trans hh15
            have N15 := Fr.app N14 Nf15
            show Go p.tables e below _ T15 (mkF m 44 #[.val (.ref a), .val (.ref b1), .val (.int (2 : Int32)), .val (.int (1 : Int32)), .val (.ref rA)] [(.int (ds.getD 0 0))])
            refine Go.st (T' := T15) (g' := (mkF m 46 #[.val (.ref a), .val (.ref b1), .val (.int (2 : Int32)), .val (.int (1 : Int32)), .val (.ref rA)] [(.int (45 : Int32)), (.int (ds.getD 0 0))])) (fun _ zk => XS.bipush X15.here hx rfl (hb hby d7_44) zk) ?_
            refine Go.st (T' := T15) (g' := (mkF m 49 #[.val (.ref a), .val (.ref b1), .val (.int (2 : Int32)), .val (.int (1 : Int32)), .val (.ref rA)] [])) (fun _ zk => XS.icmpNo X15.here hx rfl (hb hby d7_46) rfl (teq (hc46 : (ds.getD 0 0) = (45 : Int32))).2 zk) ?_
            refine Go.st (T' := T15) (g' := (mkF m 50 #[.val (.ref a), .val (.ref b1), .val (.int (2 : Int32)), .val (.int (1 : Int32)), .val (.ref rA)] [(.ref a)])) (fun _ zk => XS.aloadN X15.here hx rfl (hb hby d7_49) rfl rfl zk) ?_
            refine Go.st (T' := T15) (g' := (mkF m 51 #[.val (.ref a), .val (.ref b1), .val (.int (2 : Int32)), .val (.int (1 : Int32)), .val (.ref rA)] [(.int (1 : Int32)), (.ref a)])) (fun _ zk => XS.iconst X15.here hx rfl (hb hby d7_50) zk) ?_
            refine Go.callV (y := (⟨"java/lang/String", "charAt", "(I)C"⟩ : MethodName)) (z := (⟨"java/lang/String", "charAt", "(I)C"⟩ : MethodName)) (C := "java/lang/String") (a := a) X15 hx hZ hown E15 (w91 hw) (w92 hw) (w94 hw) (w93 hw) (w9 hw) (w95 hw) (notFace_of_selects (args := #[]) (mvT hZ (w94 hw))) (by decide) f7 (argsL := [(.int (1 : Int32))]) (rest := []) (W := 0) (rm_charAtW l Z a0 hw [] a ds n 1 zc fm h1 n0 (Nat.le_trans Z0 E1.1) f3 ⟨cd, xs, He, f5⟩ hcs hn hr (by omega) CS hz FM rf UA UH UL) rfl (lenOf pd23 rfl) rfl (by rw [hml]; rfl) rfl (by show 2 * 0 + _ ≤ _; exact Nat.le_of_eq rfl) (by decide) (by decide) (by decide) (by decide) (hb hby d7_51) ?_
            intro v16 T16 h16 L16 X16 e16 q16
            obtain ⟨hv16, Nf16, hh16⟩ := q16
            subst hv16
            have E16 : T16.heap = h1 := e16.trans hh16
            have N16 := Fr.app N15 Nf16
            show Go p.tables e below _ T16 (mkF m 54 #[.val (.ref a), .val (.ref b1), .val (.int (2 : Int32)), .val (.int (1 : Int32)), .val (.ref rA)] [(.int (ds.getD 1 0))])
            refine Go.st (T' := T16) (g' := (mkF m 56 #[.val (.ref a), .val (.ref b1), .val (.int (2 : Int32)), .val (.int (1 : Int32)), .val (.ref rA)] [(.ref rA), (.int (ds.getD 1 0))])) (fun _ zk => XS.aload X16.here hx rfl (hb hby d7_54) rfl rfl zk) ?_
            obtain ⟨T17, X17, e17, st17⟩ := getF X16 hx hZ hown (host := "") (Or.inl (w145 hw)) Via.refl E16 (LV.ext f3.2) (g := (mkF m 56 #[.val (.ref a), .val (.ref b1), .val (.int (2 : Int32)), .val (.int (1 : Int32)), .val (.ref rA)] [(.ref rA), (.int (ds.getD 1 0))])) rfl rfl (hb hby d7_56)
            refine Go.st (T' := T17) (g' := (mkF m 59 #[.val (.ref a), .val (.ref b1), .val (.int (2 : Int32)), .val (.int (1 : Int32)), .val (.ref rA)] [(.int (86 : Int32)), (.int (ds.getD 1 0))])) (fun _ zk => st17 _ zk) ?_
            by_cases hc59' : (ds.getD 1 0) = (86 : Int32)
            · refine Go.st (T' := T17) (g' := (mkF m 62 #[.val (.ref a), .val (.ref b1), .val (.int (2 : Int32)), .val (.int (1 : Int32)), .val (.ref rA)] [])) (fun _ zk => XS.icmpNo X17.here hx rfl (hb hby d7_59) rfl (teq hc59').2 zk) ?_
              refine Go.st (T' := T17) (g' := (mkF m 64 #[.val (.ref a), .val (.ref b1), .val (.int (2 : Int32)), .val (.int (1 : Int32)), .val (.ref rA)] [(.ref rA)])) (fun _ zk => XS.aload X17.here hx rfl (hb hby d7_62) rfl rfl zk) ?_
              refine Go.retA X17 hx hlk hret rfl rfl (hb hby d7_64) (by decide) (by decide) e17 ?_
              exact ⟨_, rfl, Or.inr (Or.inl ⟨(fun z => z.elim (own_r0 hr6 hc28) (fun q => hc59 ((own_short (k := 104) (by decide) He hcs hr).mp q).2.2)), (Or.inr ((own_short (k := 86) (by decide) He hcs hr).mpr ⟨hn2, hc46, hc59'⟩)), rfl⟩), N16, xt2⟩
            · refine Go.st (T' := T17) (g' := (mkF m 65 #[.val (.ref a), .val (.ref b1), .val (.int (2 : Int32)), .val (.int (1 : Int32)), .val (.ref rA)] [])) (fun _ zk => XS.icmpYes X17.here hx rfl (pc0 := 59) (pc' := 65) rfl (hb hby d7_59) rfl (feq hc59').2 (by decide) (by decide) zk) ?_
              refine Go.st (T' := T17) (g' := (mkF m 68 #[.val (.ref a), .val (.ref b1), .val (.int (2 : Int32)), .val (.int ((1 : Int32) + (1 : Int32))), .val (.ref rA)] [])) (fun _ zk => XS.iinc X17.here hx rfl (hb hby d7_65) rfl (l' := #[.val (.ref a), .val (.ref b1), .val (.int (2 : Int32)), .val (.int ((1 : Int32) + (1 : Int32))), .val (.ref rA)]) rfl zk) ?_
              rw [show ((1 : Int32) + (1 : Int32)) = (2 : Int32) from by decide]
              refine Go.st (T' := T17) (g' := (mkF m 9 #[.val (.ref a), .val (.ref b1), .val (.int (2 : Int32)), .val (.int (2 : Int32)), .val (.ref rA)] [])) (fun _ zk => XS.goto X17.here hx rfl (pc0 := 68) (pc' := 9) rfl (hb hby d7_68) (by decide) (by decide) zk) ?_
              refine Go.st (T' := T17) (g' := (mkF m 10 #[.val (.ref a), .val (.ref b1), .val (.int (2 : Int32)), .val (.int (2 : Int32)), .val (.ref rA)] [(.int (2 : Int32))])) (fun _ zk => XS.iloadN X17.here hx rfl (hb hby d7_9) rfl zk) ?_
              refine Go.st (T' := T17) (g' := (mkF m 11 #[.val (.ref a), .val (.ref b1), .val (.int (2 : Int32)), .val (.int (2 : Int32)), .val (.ref rA)] [(.int (2 : Int32)), (.int (2 : Int32))])) (fun _ zk => XS.iloadN X17.here hx rfl (hb hby d7_10) rfl zk) ?_
              refine Go.st (T' := T17) (g' := (mkF m 71 #[.val (.ref a), .val (.ref b1), .val (.int (2 : Int32)), .val (.int (2 : Int32)), .val (.ref rA)] [])) (fun _ zk => XS.icmpYes X17.here hx rfl (pc0 := 11) (pc' := 71) rfl (hb hby d7_11) rfl (flt ((by decide) : ¬ ((2 : Int32) < (2 : Int32)))).2.1 (by decide) (by decide) zk) ?_
              refine Go.st (T' := T17) (g' := (mkF m 72 #[.val (.ref a), .val (.ref b1), .val (.int (2 : Int32)), .val (.int (2 : Int32)), .val (.ref rA)] [.null])) (fun _ zk => XS.aconstNull X17.here hx rfl (hb hby d7_71) zk) ?_
              refine Go.retA X17 hx hlk hret rfl rfl (hb hby d7_72) (by decide) (by decide) e17 ?_
              exact ⟨_, rfl, Or.inr (Or.inr ⟨(fun z => z.elim (own_r0 hr6 hc28) (fun q => hc59 ((own_short (k := 104) (by decide) He hcs hr).mp q).2.2)), (fun z => z.elim (own_r0 hr13 hc28') (fun q => hc59' ((own_short (k := 86) (by decide) He hcs hr).mp q).2.2)), rfl⟩), N16, xt2⟩
          · refine Go.st (T' := T13) (g' := (mkF m 62 #[.val (.ref a), .val (.ref b1), .val (.int (2 : Int32)), .val (.int (1 : Int32)), .val (.ref rA)] [])) (fun _ zk => XS.ifYes X13.here hx rfl (pc0 := 28) (pc' := 62) rfl (hb hby d7_28) rfl ((if0 _ _).trans (feq hc28').2) (by decide) (by decide) zk) ?_
            refine Go.st (T' := T13) (g' := (mkF m 64 #[.val (.ref a), .val (.ref b1), .val (.int (2 : Int32)), .val (.int (1 : Int32)), .val (.ref rA)] [(.ref rA)])) (fun _ zk => XS.aload X13.here hx rfl (hb hby d7_62) rfl rfl zk) ?_
            refine Go.retA X13 hx hlk hret rfl rfl (hb hby d7_64) (by decide) (by decide) E13 ?_
            exact ⟨_, rfl, Or.inr (Or.inl ⟨(fun z => z.elim (own_r0 hr6 hc28) (fun q => hc59 ((own_short (k := 104) (by decide) He hcs hr).mp q).2.2)), (Or.inl (own_r hr13 hc28')), rfl⟩), N13, xt2⟩
      · refine Go.st (T' := T9) (g' := (mkF m 65 #[.val (.ref a), .val (.ref b1), .val (.int (2 : Int32)), .val (.int (0 : Int32)), .val (.ref pA)] [])) (fun _ zk => XS.icmpYes X9.here hx rfl (pc0 := 46) (pc' := 65) rfl (hb hby d7_46) rfl (feq hc46).2 (by decide) (by decide) zk) ?_
        refine Go.st (T' := T9) (g' := (mkF m 68 #[.val (.ref a), .val (.ref b1), .val (.int (2 : Int32)), .val (.int ((0 : Int32) + (1 : Int32))), .val (.ref pA)] [])) (fun _ zk => XS.iinc X9.here hx rfl (hb hby d7_65) rfl (l' := #[.val (.ref a), .val (.ref b1), .val (.int (2 : Int32)), .val (.int ((0 : Int32) + (1 : Int32))), .val (.ref pA)]) rfl zk) ?_
        rw [show ((0 : Int32) + (1 : Int32)) = (1 : Int32) from by decide]
        refine Go.st (T' := T9) (g' := (mkF m 9 #[.val (.ref a), .val (.ref b1), .val (.int (2 : Int32)), .val (.int (1 : Int32)), .val (.ref pA)] [])) (fun _ zk => XS.goto X9.here hx rfl (pc0 := 68) (pc' := 9) rfl (hb hby d7_68) (by decide) (by decide) zk) ?_
        refine Go.st (T' := T9) (g' := (mkF m 10 #[.val (.ref a), .val (.ref b1), .val (.int (2 : Int32)), .val (.int (1 : Int32)), .val (.ref pA)] [(.int (1 : Int32))])) (fun _ zk => XS.iloadN X9.here hx rfl (hb hby d7_9) rfl zk) ?_
        refine Go.st (T' := T9) (g' := (mkF m 11 #[.val (.ref a), .val (.ref b1), .val (.int (2 : Int32)), .val (.int (1 : Int32)), .val (.ref pA)] [(.int (2 : Int32)), (.int (1 : Int32))])) (fun _ zk => XS.iloadN X9.here hx rfl (hb hby d7_10) rfl zk) ?_
        refine Go.st (T' := T9) (g' := (mkF m 14 #[.val (.ref a), .val (.ref b1), .val (.int (2 : Int32)), .val (.int (1 : Int32)), .val (.ref pA)] [])) (fun _ zk => XS.icmpNo X9.here hx rfl (hb hby d7_11) rfl (tlt ((by decide) : (1 : Int32) < (2 : Int32))).2.1 zk) ?_
        refine Go.st (T' := T9) (g' := (mkF m 15 #[.val (.ref a), .val (.ref b1), .val (.int (2 : Int32)), .val (.int (1 : Int32)), .val (.ref pA)] [(.ref b1)])) (fun _ zk => XS.aloadN X9.here hx rfl (hb hby d7_14) rfl rfl zk) ?_
        refine Go.st (T' := T9) (g' := (mkF m 16 #[.val (.ref a), .val (.ref b1), .val (.int (2 : Int32)), .val (.int (1 : Int32)), .val (.ref pA)] [(.int (1 : Int32)), (.ref b1)])) (fun _ zk => XS.iloadN X9.here hx rfl (hb hby d7_15) rfl zk) ?_
        refine Go.st (T' := T9) (g' := (mkF m 17 #[.val (.ref a), .val (.ref b1), .val (.int (2 : Int32)), .val (.int (1 : Int32)), .val (.ref pA)] [(.ref rA)])) (fun _ zk => ldRV X9 hx hZ E9 V1 (j := (1 : Int32)) ⟨by decide, by decide⟩ (v := (.ref rA)) rfl (g := (mkF m 16 #[.val (.ref a), .val (.ref b1), .val (.int (2 : Int32)), .val (.int (1 : Int32)), .val (.ref pA)] [(.int (1 : Int32)), (.ref b1)])) rfl (rest := []) rfl (hb hby d7_16) zk) ?_
        refine Go.st (T' := T9) (g' := (mkF m 19 #[.val (.ref a), .val (.ref b1), .val (.int (2 : Int32)), .val (.int (1 : Int32)), .val (.ref rA)] [])) (fun _ zk => XS.astore X9.here hx rfl (hb hby d7_17) rfl rfl (l' := #[.val (.ref a), .val (.ref b1), .val (.int (2 : Int32)), .val (.int (1 : Int32)), .val (.ref rA)]) rfl zk) ?_
        refine Go.st (T' := T9) (g' := (mkF m 20 #[.val (.ref a), .val (.ref b1), .val (.int (2 : Int32)), .val (.int (1 : Int32)), .val (.ref rA)] [(.ref a)])) (fun _ zk => XS.aloadN X9.here hx rfl (hb hby d7_19) rfl rfl zk) ?_
        refine Go.st (T' := T9) (g' := (mkF m 22 #[.val (.ref a), .val (.ref b1), .val (.int (2 : Int32)), .val (.int (1 : Int32)), .val (.ref rA)] [(.ref rA), (.ref a)])) (fun _ zk => XS.aload X9.here hx rfl (hb hby d7_20) rfl rfl zk) ?_
        obtain ⟨T18, X18, e18, st18⟩ := getF X9 hx hZ hown (host := "") (Or.inl (w64 hw)) Via.refl E9 (NV.ext f3.2) (g := (mkF m 22 #[.val (.ref a), .val (.ref b1), .val (.int (2 : Int32)), .val (.int (1 : Int32)), .val (.ref rA)] [(.ref rA), (.ref a)])) rfl rfl (hb hby d7_22)
        refine Go.st (T' := T18) (g' := (mkF m 25 #[.val (.ref a), .val (.ref b1), .val (.int (2 : Int32)), .val (.int (1 : Int32)), .val (.ref rA)] [(.ref nV), (.ref a)])) (fun _ zk => st18 _ zk) ?_
        refine Go.callV (y := (⟨"java/lang/String", "equals", "(Ljava/lang/Object;)Z"⟩ : MethodName)) (z := (⟨"java/lang/String", "equals", "(Ljava/lang/Object;)Z"⟩ : MethodName)) (C := "java/lang/String") (a := a) X18 hx hZ hown e18 (w66 hw) (w30 hw) (w32 hw) (w31 hw) (w9 hw) (w33 hw) (notFace_of_selects (args := #[]) (mvT hZ (w32 hw))) (by decide) f7 (argsL := [(.ref nV)]) (rest := []) (W := 0) (rm_eqStr l Z a0 hw [] a nV cd 0 zc xs [(45 : Int32), (45 : Int32), (118 : Int32), (101 : Int32), (114 : Int32), (115 : Int32), (105 : Int32), (111 : Int32), (110 : Int32)] h1 n0 (Nat.le_trans Z0 E1.1) f3 f5 (SVs.ext f3.2) (He.len hn) (by decide) CS hz) rfl (lenOf pd21 rfl) rfl (by rw [hml]; rfl) rfl (by show 2 * 0 + _ ≤ _; exact Nat.le_of_eq rfl) (by decide) (by decide) (by decide) (by decide) (hb hby d7_25) ?_
        intro v19 T19 h19 L19 X19 e19 q19
        obtain ⟨r19, hv19, hr19, Nf19, hh19⟩ := q19
        subst hv19
        have E19 : T19.heap = h1 := e19.trans hh19
        have N19 := Fr.app N9 Nf19
        show Go p.tables e below _ T19 (mkF m 28 #[.val (.ref a), .val (.ref b1), .val (.int (2 : Int32)), .val (.int (1 : Int32)), .val (.ref rA)] [(.int r19)])
        by_cases hc28' : r19 = (0 : Int32)
        · refine Go.st (T' := T19) (g' := (mkF m 31 #[.val (.ref a), .val (.ref b1), .val (.int (2 : Int32)), .val (.int (1 : Int32)), .val (.ref rA)] [])) (fun _ zk => XS.ifNo X19.here hx rfl (hb hby d7_28) rfl ((if0 _ _).trans (teq hc28').2) zk) ?_
          refine Go.st (T' := T19) (g' := (mkF m 32 #[.val (.ref a), .val (.ref b1), .val (.int (2 : Int32)), .val (.int (1 : Int32)), .val (.ref rA)] [(.ref a)])) (fun _ zk => XS.aloadN X19.here hx rfl (hb hby d7_31) rfl rfl zk) ?_
          refine Go.callV (y := (⟨"java/lang/String", "length", "()I"⟩ : MethodName)) (z := (⟨"java/lang/String", "length", "()I"⟩ : MethodName)) (C := "java/lang/String") (a := a) X19 hx hZ hown E19 (w67 hw) (w68 hw) (w70 hw) (w69 hw) (w9 hw) (w71 hw) (notFace_of_selects (args := #[]) (mvT hZ (w70 hw))) (by decide) f7 (argsL := []) (rest := []) (W := 0) (rm_lengthW l Z a0 hw [] a ds n zc h1 n0 (Nat.le_trans Z0 E1.1) f3 ⟨cd, xs, He, f5⟩ hn CS hz) rfl (lenOf pd22 rfl) rfl (by rw [hml]; rfl) rfl (by show 2 * 0 + _ ≤ _; exact Nat.le_of_eq rfl) (by decide) (by decide) (by decide) (by decide) (hb hby d7_32) ?_
          intro v20 T20 h20 L20 X20 e20 q20
          obtain ⟨hv20, Nf20, hh20⟩ := q20
          subst hv20
          have E20 : T20.heap = h1 := e20.trans hh20
          have N20 := Fr.app N19 Nf20
          show Go p.tables e below _ T20 (mkF m 35 #[.val (.ref a), .val (.ref b1), .val (.int (2 : Int32)), .val (.int (1 : Int32)), .val (.ref rA)] [(.int (Int32.ofNat n))])
          refine Go.st (T' := T20) (g' := (mkF m 36 #[.val (.ref a), .val (.ref b1), .val (.int (2 : Int32)), .val (.int (1 : Int32)), .val (.ref rA)] [(.int (2 : Int32)), (.int (Int32.ofNat n))])) (fun _ zk => XS.iconst X20.here hx rfl (hb hby d7_35) zk) ?_
          refine Go.st (T' := T20) (g' := (mkF m 39 #[.val (.ref a), .val (.ref b1), .val (.int (2 : Int32)), .val (.int (1 : Int32)), .val (.ref rA)] [])) (fun _ zk => XS.icmpNo X20.here hx rfl (hb hby d7_36) rfl (teq (hc36 : (Int32.ofNat n) = (2 : Int32))).2 zk) ?_
          refine Go.st (T' := T20) (g' := (mkF m 40 #[.val (.ref a), .val (.ref b1), .val (.int (2 : Int32)), .val (.int (1 : Int32)), .val (.ref rA)] [(.ref a)])) (fun _ zk => XS.aloadN X20.here hx rfl (hb hby d7_39) rfl rfl zk) ?_
          refine Go.st (T' := T20) (g' := (mkF m 41 #[.val (.ref a), .val (.ref b1), .val (.int (2 : Int32)), .val (.int (1 : Int32)), .val (.ref rA)] [(.int (0 : Int32)), (.ref a)])) (fun _ zk => XS.iconst X20.here hx rfl (hb hby d7_40) zk) ?_
          refine Go.callV (y := (⟨"java/lang/String", "charAt", "(I)C"⟩ : MethodName)) (z := (⟨"java/lang/String", "charAt", "(I)C"⟩ : MethodName)) (C := "java/lang/String") (a := a) X20 hx hZ hown E20 (w91 hw) (w92 hw) (w94 hw) (w93 hw) (w9 hw) (w95 hw) (notFace_of_selects (args := #[]) (mvT hZ (w94 hw))) (by decide) f7 (argsL := [(.int (0 : Int32))]) (rest := []) (W := 0) (rm_charAtW l Z a0 hw [] a ds n 0 zc fm h1 n0 (Nat.le_trans Z0 E1.1) f3 ⟨cd, xs, He, f5⟩ hcs hn hr (by omega) CS hz FM rf UA UH UL) rfl (lenOf pd23 rfl) rfl (by rw [hml]; rfl) rfl (by show 2 * 0 + _ ≤ _; exact Nat.le_of_eq rfl) (by decide) (by decide) (by decide) (by decide) (hb hby d7_41) ?_
          intro v21 T21 h21 L21 X21 e21 q21
          obtain ⟨hv21, Nf21, hh21⟩ := q21
          subst hv21
          have E21 : T21.heap = h1 := e21.trans hh21
          have N21 := Fr.app N20 Nf21
          show Go p.tables e below _ T21 (mkF m 44 #[.val (.ref a), .val (.ref b1), .val (.int (2 : Int32)), .val (.int (1 : Int32)), .val (.ref rA)] [(.int (ds.getD 0 0))])
          refine Go.st (T' := T21) (g' := (mkF m 46 #[.val (.ref a), .val (.ref b1), .val (.int (2 : Int32)), .val (.int (1 : Int32)), .val (.ref rA)] [(.int (45 : Int32)), (.int (ds.getD 0 0))])) (fun _ zk => XS.bipush X21.here hx rfl (hb hby d7_44) zk) ?_
          refine Go.st (T' := T21) (g' := (mkF m 65 #[.val (.ref a), .val (.ref b1), .val (.int (2 : Int32)), .val (.int (1 : Int32)), .val (.ref rA)] [])) (fun _ zk => XS.icmpYes X21.here hx rfl (pc0 := 46) (pc' := 65) rfl (hb hby d7_46) rfl (feq (hc46 : ¬ ((ds.getD 0 0) = (45 : Int32)))).2 (by decide) (by decide) zk) ?_
          refine Go.st (T' := T21) (g' := (mkF m 68 #[.val (.ref a), .val (.ref b1), .val (.int (2 : Int32)), .val (.int ((1 : Int32) + (1 : Int32))), .val (.ref rA)] [])) (fun _ zk => XS.iinc X21.here hx rfl (hb hby d7_65) rfl (l' := #[.val (.ref a), .val (.ref b1), .val (.int (2 : Int32)), .val (.int ((1 : Int32) + (1 : Int32))), .val (.ref rA)]) rfl zk) ?_
          rw [show ((1 : Int32) + (1 : Int32)) = (2 : Int32) from by decide]
          refine Go.st (T' := T21) (g' := (mkF m 9 #[.val (.ref a), .val (.ref b1), .val (.int (2 : Int32)), .val (.int (2 : Int32)), .val (.ref rA)] [])) (fun _ zk => XS.goto X21.here hx rfl (pc0 := 68) (pc' := 9) rfl (hb hby d7_68) (by decide) (by decide) zk) ?_
          refine Go.st (T' := T21) (g' := (mkF m 10 #[.val (.ref a), .val (.ref b1), .val (.int (2 : Int32)), .val (.int (2 : Int32)), .val (.ref rA)] [(.int (2 : Int32))])) (fun _ zk => XS.iloadN X21.here hx rfl (hb hby d7_9) rfl zk) ?_
          refine Go.st (T' := T21) (g' := (mkF m 11 #[.val (.ref a), .val (.ref b1), .val (.int (2 : Int32)), .val (.int (2 : Int32)), .val (.ref rA)] [(.int (2 : Int32)), (.int (2 : Int32))])) (fun _ zk => XS.iloadN X21.here hx rfl (hb hby d7_10) rfl zk) ?_
          refine Go.st (T' := T21) (g' := (mkF m 71 #[.val (.ref a), .val (.ref b1), .val (.int (2 : Int32)), .val (.int (2 : Int32)), .val (.ref rA)] [])) (fun _ zk => XS.icmpYes X21.here hx rfl (pc0 := 11) (pc' := 71) rfl (hb hby d7_11) rfl (flt ((by decide) : ¬ ((2 : Int32) < (2 : Int32)))).2.1 (by decide) (by decide) zk) ?_
          refine Go.st (T' := T21) (g' := (mkF m 72 #[.val (.ref a), .val (.ref b1), .val (.int (2 : Int32)), .val (.int (2 : Int32)), .val (.ref rA)] [.null])) (fun _ zk => XS.aconstNull X21.here hx rfl (hb hby d7_71) zk) ?_
          refine Go.retA X21 hx hlk hret rfl rfl (hb hby d7_72) (by decide) (by decide) E21 ?_
          exact ⟨_, rfl, Or.inr (Or.inr ⟨(fun z => z.elim (own_r0 hr6 hc28) (fun q => hc46 ((own_short (k := 104) (by decide) He hcs hr).mp q).2.1)), (fun z => z.elim (own_r0 hr19 hc28') (fun q => hc46 ((own_short (k := 86) (by decide) He hcs hr).mp q).2.1)), rfl⟩), N21, xt2⟩
        · refine Go.st (T' := T19) (g' := (mkF m 62 #[.val (.ref a), .val (.ref b1), .val (.int (2 : Int32)), .val (.int (1 : Int32)), .val (.ref rA)] [])) (fun _ zk => XS.ifYes X19.here hx rfl (pc0 := 28) (pc' := 62) rfl (hb hby d7_28) rfl ((if0 _ _).trans (feq hc28').2) (by decide) (by decide) zk) ?_
          refine Go.st (T' := T19) (g' := (mkF m 64 #[.val (.ref a), .val (.ref b1), .val (.int (2 : Int32)), .val (.int (1 : Int32)), .val (.ref rA)] [(.ref rA)])) (fun _ zk => XS.aload X19.here hx rfl (hb hby d7_62) rfl rfl zk) ?_
          refine Go.retA X19 hx hlk hret rfl rfl (hb hby d7_64) (by decide) (by decide) E19 ?_
          exact ⟨_, rfl, Or.inr (Or.inl ⟨(fun z => z.elim (own_r0 hr6 hc28) (fun q => hc46 ((own_short (k := 104) (by decide) He hcs hr).mp q).2.1)), (Or.inl (own_r hr19 hc28')), rfl⟩), N19, xt2⟩
    · refine Go.st (T' := T8) (g' := (mkF m 65 #[.val (.ref a), .val (.ref b1), .val (.int (2 : Int32)), .val (.int (0 : Int32)), .val (.ref pA)] [])) (fun _ zk => XS.icmpYes X8.here hx rfl (pc0 := 36) (pc' := 65) rfl (hb hby d7_36) rfl (feq hc36).2 (by decide) (by decide) zk) ?_
      refine Go.st (T' := T8) (g' := (mkF m 68 #[.val (.ref a), .val (.ref b1), .val (.int (2 : Int32)), .val (.int ((0 : Int32) + (1 : Int32))), .val (.ref pA)] [])) (fun _ zk => XS.iinc X8.here hx rfl (hb hby d7_65) rfl (l' := #[.val (.ref a), .val (.ref b1), .val (.int (2 : Int32)), .val (.int ((0 : Int32) + (1 : Int32))), .val (.ref pA)]) rfl zk) ?_
      rw [show ((0 : Int32) + (1 : Int32)) = (1 : Int32) from by decide]
      refine Go.st (T' := T8) (g' := (mkF m 9 #[.val (.ref a), .val (.ref b1), .val (.int (2 : Int32)), .val (.int (1 : Int32)), .val (.ref pA)] [])) (fun _ zk => XS.goto X8.here hx rfl (pc0 := 68) (pc' := 9) rfl (hb hby d7_68) (by decide) (by decide) zk) ?_
      refine Go.st (T' := T8) (g' := (mkF m 10 #[.val (.ref a), .val (.ref b1), .val (.int (2 : Int32)), .val (.int (1 : Int32)), .val (.ref pA)] [(.int (1 : Int32))])) (fun _ zk => XS.iloadN X8.here hx rfl (hb hby d7_9) rfl zk) ?_
      refine Go.st (T' := T8) (g' := (mkF m 11 #[.val (.ref a), .val (.ref b1), .val (.int (2 : Int32)), .val (.int (1 : Int32)), .val (.ref pA)] [(.int (2 : Int32)), (.int (1 : Int32))])) (fun _ zk => XS.iloadN X8.here hx rfl (hb hby d7_10) rfl zk) ?_
      refine Go.st (T' := T8) (g' := (mkF m 14 #[.val (.ref a), .val (.ref b1), .val (.int (2 : Int32)), .val (.int (1 : Int32)), .val (.ref pA)] [])) (fun _ zk => XS.icmpNo X8.here hx rfl (hb hby d7_11) rfl (tlt ((by decide) : (1 : Int32) < (2 : Int32))).2.1 zk) ?_
      refine Go.st (T' := T8) (g' := (mkF m 15 #[.val (.ref a), .val (.ref b1), .val (.int (2 : Int32)), .val (.int (1 : Int32)), .val (.ref pA)] [(.ref b1)])) (fun _ zk => XS.aloadN X8.here hx rfl (hb hby d7_14) rfl rfl zk) ?_
      refine Go.st (T' := T8) (g' := (mkF m 16 #[.val (.ref a), .val (.ref b1), .val (.int (2 : Int32)), .val (.int (1 : Int32)), .val (.ref pA)] [(.int (1 : Int32)), (.ref b1)])) (fun _ zk => XS.iloadN X8.here hx rfl (hb hby d7_15) rfl zk) ?_
      refine Go.st (T' := T8) (g' := (mkF m 17 #[.val (.ref a), .val (.ref b1), .val (.int (2 : Int32)), .val (.int (1 : Int32)), .val (.ref pA)] [(.ref rA)])) (fun _ zk => ldRV X8 hx hZ E8 V1 (j := (1 : Int32)) ⟨by decide, by decide⟩ (v := (.ref rA)) rfl (g := (mkF m 16 #[.val (.ref a), .val (.ref b1), .val (.int (2 : Int32)), .val (.int (1 : Int32)), .val (.ref pA)] [(.int (1 : Int32)), (.ref b1)])) rfl (rest := []) rfl (hb hby d7_16) zk) ?_
      refine Go.st (T' := T8) (g' := (mkF m 19 #[.val (.ref a), .val (.ref b1), .val (.int (2 : Int32)), .val (.int (1 : Int32)), .val (.ref rA)] [])) (fun _ zk => XS.astore X8.here hx rfl (hb hby d7_17) rfl rfl (l' := #[.val (.ref a), .val (.ref b1), .val (.int (2 : Int32)), .val (.int (1 : Int32)), .val (.ref rA)]) rfl zk) ?_
      refine Go.st (T' := T8) (g' := (mkF m 20 #[.val (.ref a), .val (.ref b1), .val (.int (2 : Int32)), .val (.int (1 : Int32)), .val (.ref rA)] [(.ref a)])) (fun _ zk => XS.aloadN X8.here hx rfl (hb hby d7_19) rfl rfl zk) ?_
      refine Go.st (T' := T8) (g' := (mkF m 22 #[.val (.ref a), .val (.ref b1), .val (.int (2 : Int32)), .val (.int (1 : Int32)), .val (.ref rA)] [(.ref rA), (.ref a)])) (fun _ zk => XS.aload X8.here hx rfl (hb hby d7_20) rfl rfl zk) ?_
      obtain ⟨T22, X22, e22, st22⟩ := getF X8 hx hZ hown (host := "") (Or.inl (w64 hw)) Via.refl E8 (NV.ext f3.2) (g := (mkF m 22 #[.val (.ref a), .val (.ref b1), .val (.int (2 : Int32)), .val (.int (1 : Int32)), .val (.ref rA)] [(.ref rA), (.ref a)])) rfl rfl (hb hby d7_22)
      refine Go.st (T' := T22) (g' := (mkF m 25 #[.val (.ref a), .val (.ref b1), .val (.int (2 : Int32)), .val (.int (1 : Int32)), .val (.ref rA)] [(.ref nV), (.ref a)])) (fun _ zk => st22 _ zk) ?_
      refine Go.callV (y := (⟨"java/lang/String", "equals", "(Ljava/lang/Object;)Z"⟩ : MethodName)) (z := (⟨"java/lang/String", "equals", "(Ljava/lang/Object;)Z"⟩ : MethodName)) (C := "java/lang/String") (a := a) X22 hx hZ hown e22 (w66 hw) (w30 hw) (w32 hw) (w31 hw) (w9 hw) (w33 hw) (notFace_of_selects (args := #[]) (mvT hZ (w32 hw))) (by decide) f7 (argsL := [(.ref nV)]) (rest := []) (W := 0) (rm_eqStr l Z a0 hw [] a nV cd 0 zc xs [(45 : Int32), (45 : Int32), (118 : Int32), (101 : Int32), (114 : Int32), (115 : Int32), (105 : Int32), (111 : Int32), (110 : Int32)] h1 n0 (Nat.le_trans Z0 E1.1) f3 f5 (SVs.ext f3.2) (He.len hn) (by decide) CS hz) rfl (lenOf pd21 rfl) rfl (by rw [hml]; rfl) rfl (by show 2 * 0 + _ ≤ _; exact Nat.le_of_eq rfl) (by decide) (by decide) (by decide) (by decide) (hb hby d7_25) ?_
      intro v23 T23 h23 L23 X23 e23 q23
      obtain ⟨r23, hv23, hr23, Nf23, hh23⟩ := q23
      subst hv23
      have E23 : T23.heap = h1 := e23.trans hh23
      have N23 := Fr.app N8 Nf23
      show Go p.tables e below _ T23 (mkF m 28 #[.val (.ref a), .val (.ref b1), .val (.int (2 : Int32)), .val (.int (1 : Int32)), .val (.ref rA)] [(.int r23)])
      by_cases hc28' : r23 = (0 : Int32)
      · refine Go.st (T' := T23) (g' := (mkF m 31 #[.val (.ref a), .val (.ref b1), .val (.int (2 : Int32)), .val (.int (1 : Int32)), .val (.ref rA)] [])) (fun _ zk => XS.ifNo X23.here hx rfl (hb hby d7_28) rfl ((if0 _ _).trans (teq hc28').2) zk) ?_
        refine Go.st (T' := T23) (g' := (mkF m 32 #[.val (.ref a), .val (.ref b1), .val (.int (2 : Int32)), .val (.int (1 : Int32)), .val (.ref rA)] [(.ref a)])) (fun _ zk => XS.aloadN X23.here hx rfl (hb hby d7_31) rfl rfl zk) ?_
        refine Go.callV (y := (⟨"java/lang/String", "length", "()I"⟩ : MethodName)) (z := (⟨"java/lang/String", "length", "()I"⟩ : MethodName)) (C := "java/lang/String") (a := a) X23 hx hZ hown E23 (w67 hw) (w68 hw) (w70 hw) (w69 hw) (w9 hw) (w71 hw) (notFace_of_selects (args := #[]) (mvT hZ (w70 hw))) (by decide) f7 (argsL := []) (rest := []) (W := 0) (rm_lengthW l Z a0 hw [] a ds n zc h1 n0 (Nat.le_trans Z0 E1.1) f3 ⟨cd, xs, He, f5⟩ hn CS hz) rfl (lenOf pd22 rfl) rfl (by rw [hml]; rfl) rfl (by show 2 * 0 + _ ≤ _; exact Nat.le_of_eq rfl) (by decide) (by decide) (by decide) (by decide) (hb hby d7_32) ?_
        intro v24 T24 h24 L24 X24 e24 q24
        obtain ⟨hv24, Nf24, hh24⟩ := q24
        subst hv24
        have E24 : T24.heap = h1 := e24.trans hh24
        have N24 := Fr.app N23 Nf24
        show Go p.tables e below _ T24 (mkF m 35 #[.val (.ref a), .val (.ref b1), .val (.int (2 : Int32)), .val (.int (1 : Int32)), .val (.ref rA)] [(.int (Int32.ofNat n))])
        refine Go.st (T' := T24) (g' := (mkF m 36 #[.val (.ref a), .val (.ref b1), .val (.int (2 : Int32)), .val (.int (1 : Int32)), .val (.ref rA)] [(.int (2 : Int32)), (.int (Int32.ofNat n))])) (fun _ zk => XS.iconst X24.here hx rfl (hb hby d7_35) zk) ?_
        refine Go.st (T' := T24) (g' := (mkF m 65 #[.val (.ref a), .val (.ref b1), .val (.int (2 : Int32)), .val (.int (1 : Int32)), .val (.ref rA)] [])) (fun _ zk => XS.icmpYes X24.here hx rfl (pc0 := 36) (pc' := 65) rfl (hb hby d7_36) rfl (feq (hc36 : ¬ ((Int32.ofNat n) = (2 : Int32)))).2 (by decide) (by decide) zk) ?_
        refine Go.st (T' := T24) (g' := (mkF m 68 #[.val (.ref a), .val (.ref b1), .val (.int (2 : Int32)), .val (.int ((1 : Int32) + (1 : Int32))), .val (.ref rA)] [])) (fun _ zk => XS.iinc X24.here hx rfl (hb hby d7_65) rfl (l' := #[.val (.ref a), .val (.ref b1), .val (.int (2 : Int32)), .val (.int ((1 : Int32) + (1 : Int32))), .val (.ref rA)]) rfl zk) ?_
        rw [show ((1 : Int32) + (1 : Int32)) = (2 : Int32) from by decide]
        refine Go.st (T' := T24) (g' := (mkF m 9 #[.val (.ref a), .val (.ref b1), .val (.int (2 : Int32)), .val (.int (2 : Int32)), .val (.ref rA)] [])) (fun _ zk => XS.goto X24.here hx rfl (pc0 := 68) (pc' := 9) rfl (hb hby d7_68) (by decide) (by decide) zk) ?_
        refine Go.st (T' := T24) (g' := (mkF m 10 #[.val (.ref a), .val (.ref b1), .val (.int (2 : Int32)), .val (.int (2 : Int32)), .val (.ref rA)] [(.int (2 : Int32))])) (fun _ zk => XS.iloadN X24.here hx rfl (hb hby d7_9) rfl zk) ?_
        refine Go.st (T' := T24) (g' := (mkF m 11 #[.val (.ref a), .val (.ref b1), .val (.int (2 : Int32)), .val (.int (2 : Int32)), .val (.ref rA)] [(.int (2 : Int32)), (.int (2 : Int32))])) (fun _ zk => XS.iloadN X24.here hx rfl (hb hby d7_10) rfl zk) ?_
        refine Go.st (T' := T24) (g' := (mkF m 71 #[.val (.ref a), .val (.ref b1), .val (.int (2 : Int32)), .val (.int (2 : Int32)), .val (.ref rA)] [])) (fun _ zk => XS.icmpYes X24.here hx rfl (pc0 := 11) (pc' := 71) rfl (hb hby d7_11) rfl (flt ((by decide) : ¬ ((2 : Int32) < (2 : Int32)))).2.1 (by decide) (by decide) zk) ?_
        refine Go.st (T' := T24) (g' := (mkF m 72 #[.val (.ref a), .val (.ref b1), .val (.int (2 : Int32)), .val (.int (2 : Int32)), .val (.ref rA)] [.null])) (fun _ zk => XS.aconstNull X24.here hx rfl (hb hby d7_71) zk) ?_
        refine Go.retA X24 hx hlk hret rfl rfl (hb hby d7_72) (by decide) (by decide) E24 ?_
        exact ⟨_, rfl, Or.inr (Or.inr ⟨(fun z => z.elim (own_r0 hr6 hc28) (fun q => hc36 (by rw [((own_short (k := 104) (by decide) He hcs hr).mp q).1]; rfl))), (fun z => z.elim (own_r0 hr23 hc28') (fun q => hc36 (by rw [((own_short (k := 86) (by decide) He hcs hr).mp q).1]; rfl))), rfl⟩), N24, xt2⟩
      · refine Go.st (T' := T23) (g' := (mkF m 62 #[.val (.ref a), .val (.ref b1), .val (.int (2 : Int32)), .val (.int (1 : Int32)), .val (.ref rA)] [])) (fun _ zk => XS.ifYes X23.here hx rfl (pc0 := 28) (pc' := 62) rfl (hb hby d7_28) rfl ((if0 _ _).trans (feq hc28').2) (by decide) (by decide) zk) ?_
        refine Go.st (T' := T23) (g' := (mkF m 64 #[.val (.ref a), .val (.ref b1), .val (.int (2 : Int32)), .val (.int (1 : Int32)), .val (.ref rA)] [(.ref rA)])) (fun _ zk => XS.aload X23.here hx rfl (hb hby d7_62) rfl rfl zk) ?_
        refine Go.retA X23 hx hlk hret rfl rfl (hb hby d7_64) (by decide) (by decide) E23 ?_
        exact ⟨_, rfl, Or.inr (Or.inl ⟨(fun z => z.elim (own_r0 hr6 hc28) (fun q => hc36 (by rw [((own_short (k := 104) (by decide) He hcs hr).mp q).1]; rfl))), (Or.inl (own_r hr23 hc28')), rfl⟩), N23, xt2⟩
  · refine Go.st (T' := T6) (g' := (mkF m 62 #[.val (.ref a), .val (.ref b1), .val (.int (2 : Int32)), .val (.int (0 : Int32)), .val (.ref pA)] [])) (fun _ zk => XS.ifYes X6.here hx rfl (pc0 := 28) (pc' := 62) rfl (hb hby d7_28) rfl ((if0 _ _).trans (feq hc28).2) (by decide) (by decide) zk) ?_
    refine Go.st (T' := T6) (g' := (mkF m 64 #[.val (.ref a), .val (.ref b1), .val (.int (2 : Int32)), .val (.int (0 : Int32)), .val (.ref pA)] [(.ref pA)])) (fun _ zk => XS.aload X6.here hx rfl (hb hby d7_62) rfl rfl zk) ?_
    refine Go.retA X6 hx hlk hret rfl rfl (hb hby d7_64) (by decide) (by decide) E6 ?_
    exact ⟨_, rfl, Or.inl ⟨(Or.inl (own_r hr6 hc28)), rfl⟩, N6, xt2⟩
theorem d28_0 : decode method_3_code 0 = .ok (.aload_n 0, 1) := by decide +kernel
theorem d28_1 : decode method_3_code 1 = .ok (.iconst 0, 1) := by decide +kernel
theorem d28_2 : decode method_3_code 2 = .ok (.bipush 45, 2) := by decide +kernel
theorem d28_4 : decode method_3_code 4 = .ok (.castore, 1) := by decide +kernel
theorem d28_5 : decode method_3_code 5 = .ok (.aload_n 0, 1) := by decide +kernel
theorem d28_6 : decode method_3_code 6 = .ok (.iconst 1, 1) := by decide +kernel
theorem d28_7 : decode method_3_code 7 = .ok (.bipush 45, 2) := by decide +kernel
theorem d28_9 : decode method_3_code 9 = .ok (.castore, 1) := by decide +kernel
theorem d28_10 : decode method_3_code 10 = .ok (.aload_n 0, 1) := by decide +kernel
theorem d28_11 : decode method_3_code 11 = .ok (.iconst 2, 1) := by decide +kernel
theorem d28_12 : decode method_3_code 12 = .ok (.bipush 104, 2) := by decide +kernel
theorem d28_14 : decode method_3_code 14 = .ok (.castore, 1) := by decide +kernel
theorem d28_15 : decode method_3_code 15 = .ok (.aload_n 0, 1) := by decide +kernel
theorem d28_16 : decode method_3_code 16 = .ok (.iconst 3, 1) := by decide +kernel
theorem d28_17 : decode method_3_code 17 = .ok (.bipush 101, 2) := by decide +kernel
theorem d28_19 : decode method_3_code 19 = .ok (.castore, 1) := by decide +kernel
theorem d28_20 : decode method_3_code 20 = .ok (.aload_n 0, 1) := by decide +kernel
theorem d28_21 : decode method_3_code 21 = .ok (.iconst 4, 1) := by decide +kernel
theorem d28_22 : decode method_3_code 22 = .ok (.bipush 108, 2) := by decide +kernel
theorem d28_24 : decode method_3_code 24 = .ok (.castore, 1) := by decide +kernel
theorem d28_25 : decode method_3_code 25 = .ok (.aload_n 0, 1) := by decide +kernel
theorem d28_26 : decode method_3_code 26 = .ok (.iconst 5, 1) := by decide +kernel
theorem d28_27 : decode method_3_code 27 = .ok (.bipush 112, 2) := by decide +kernel
theorem d28_29 : decode method_3_code 29 = .ok (.castore, 1) := by decide +kernel
theorem d28_30 : decode method_3_code 30 = .ok (.return_, 1) := by decide +kernel
def rr_help : Room := { frames := 0, cells := 0, slots := 0, locals := 0 }
theorem pn24 : plainName "com/example/tierbook/tierbook/cli/FlagNamedPinLaw" = true := by first | (simp [plainName, overriddenIn]; done) | decide +kernel
set_option maxRecDepth 65536 in
set_option maxHeartbeats 40000000 in
theorem rm_help (l : Launch) (Z : State) (a0 : Array Value) (hw : ∀ d ∈ tables_1, d.before a0 Z = true) (ws : List Jvm.Cond) (b : Addr) (kC : ClassId) (h0 : Heap) (n0 : Nat) (Z0 : n0 ≤ h0.size) (VC : Arv Z h0 b kC .char (10 : Int32) [(.int (0 : Int32)), (.int (0 : Int32)), (.int (0 : Int32)), (.int (0 : Int32)), (.int (0 : Int32)), (.int (0 : Int32)), (.int (0 : Int32)), (.int (0 : Int32)), (.int (0 : Int32)), (.int (0 : Int32))] (.int (0 : Int32))) (gb : n0 ≤ b) :
    Con l Z (⟨"com/example/tierbook/tierbook/cli/FlagNamedPinLaw", "help", "([C)V"⟩ : MethodName) method_3_code 1 none ws rr_help #[(.ref b)] h0 (fun v h L => v = none ∧ Fr n0 L ∧ Keep h0 h [b] ∧ Arv Z h b kC .char (10 : Int32) [(.int (45 : Int32)), (.int (45 : Int32)), (.int (104 : Int32)), (.int (101 : Int32)), (.int (108 : Int32)), (.int (112 : Int32)), (.int (0 : Int32)), (.int (0 : Int32)), (.int (0 : Int32)), (.int (0 : Int32))] (.int (0 : Int32))) := by
  refine Con.enter (plainFor_of_name pn24) ?_
  intro p e s m below meth c s₁ X0 hx hZ hby hml hret hlk hown hnm e0
  have N0 := Fr.nil n0
  refine Go.cast (g' := (mkF m 0 #[.val (.ref b)] [])) (by first | rfl | (simp [entryFrame, mkF, argsToLocals, Value.category]; done)) ?_
  refine Go.st (T' := s₁) (g' := (mkF m 1 #[.val (.ref b)] [(.ref b)])) (fun _ zk => XS.aloadN X0.here hx rfl (hb hby d28_0) rfl rfl zk) ?_
  refine Go.st (T' := s₁) (g' := (mkF m 2 #[.val (.ref b)] [(.int (0 : Int32)), (.ref b)])) (fun _ zk => XS.iconst X0.here hx rfl (hb hby d28_1) zk) ?_
  refine Go.st (T' := s₁) (g' := (mkF m 4 #[.val (.ref b)] [(.int (45 : Int32)), (.int (0 : Int32)), (.ref b)])) (fun _ zk => XS.bipush X0.here hx rfl (hb hby d28_2) zk) ?_
  obtain ⟨T1, h1, X1, e1, W1, V1, st1⟩ := stCV X0 hx hZ e0 VC (j := (0 : Int32)) (i := 0) (by decide) rfl (Nat.le_of_ble_eq_true rfl) (g := (mkF m 4 #[.val (.ref b)] [(.int (45 : Int32)), (.int (0 : Int32)), (.ref b)])) rfl rfl (hb hby d28_4)
  rw [show nar .char (45 : Int32) = (45 : Int32) from by decide] at V1
  have V1' : Arv Z h1 b kC .char (10 : Int32) [(.int (45 : Int32)), (.int (0 : Int32)), (.int (0 : Int32)), (.int (0 : Int32)), (.int (0 : Int32)), (.int (0 : Int32)), (.int (0 : Int32)), (.int (0 : Int32)), (.int (0 : Int32)), (.int (0 : Int32))] (.int (0 : Int32)) := V1
  have N1 := Fr.snoc X1 N0 gb
  refine Go.st (T' := T1) (g' := (mkF m 5 #[.val (.ref b)] [])) (fun _ zk => st1 _ zk) ?_
  refine Go.st (T' := T1) (g' := (mkF m 6 #[.val (.ref b)] [(.ref b)])) (fun _ zk => XS.aloadN X1.here hx rfl (hb hby d28_5) rfl rfl zk) ?_
  refine Go.st (T' := T1) (g' := (mkF m 7 #[.val (.ref b)] [(.int (1 : Int32)), (.ref b)])) (fun _ zk => XS.iconst X1.here hx rfl (hb hby d28_6) zk) ?_
  refine Go.st (T' := T1) (g' := (mkF m 9 #[.val (.ref b)] [(.int (45 : Int32)), (.int (1 : Int32)), (.ref b)])) (fun _ zk => XS.bipush X1.here hx rfl (hb hby d28_7) zk) ?_
  obtain ⟨T2, h2, X2, e2, W2, V2, st2⟩ := stCV X1 hx hZ e1 V1' (j := (1 : Int32)) (i := 1) (by decide) rfl (Nat.le_of_ble_eq_true rfl) (g := (mkF m 9 #[.val (.ref b)] [(.int (45 : Int32)), (.int (1 : Int32)), (.ref b)])) rfl rfl (hb hby d28_9)
  rw [show nar .char (45 : Int32) = (45 : Int32) from by decide] at V2
  have V2' : Arv Z h2 b kC .char (10 : Int32) [(.int (45 : Int32)), (.int (45 : Int32)), (.int (0 : Int32)), (.int (0 : Int32)), (.int (0 : Int32)), (.int (0 : Int32)), (.int (0 : Int32)), (.int (0 : Int32)), (.int (0 : Int32)), (.int (0 : Int32))] (.int (0 : Int32)) := V2
  have N2 := Fr.snoc X2 N1 gb
  refine Go.st (T' := T2) (g' := (mkF m 10 #[.val (.ref b)] [])) (fun _ zk => st2 _ zk) ?_
  refine Go.st (T' := T2) (g' := (mkF m 11 #[.val (.ref b)] [(.ref b)])) (fun _ zk => XS.aloadN X2.here hx rfl (hb hby d28_10) rfl rfl zk) ?_
  refine Go.st (T' := T2) (g' := (mkF m 12 #[.val (.ref b)] [(.int (2 : Int32)), (.ref b)])) (fun _ zk => XS.iconst X2.here hx rfl (hb hby d28_11) zk) ?_
  refine Go.st (T' := T2) (g' := (mkF m 14 #[.val (.ref b)] [(.int (104 : Int32)), (.int (2 : Int32)), (.ref b)])) (fun _ zk => XS.bipush X2.here hx rfl (hb hby d28_12) zk) ?_
  obtain ⟨T3, h3, X3, e3, W3, V3, st3⟩ := stCV X2 hx hZ e2 V2' (j := (2 : Int32)) (i := 2) (by decide) rfl (Nat.le_of_ble_eq_true rfl) (g := (mkF m 14 #[.val (.ref b)] [(.int (104 : Int32)), (.int (2 : Int32)), (.ref b)])) rfl rfl (hb hby d28_14)
  rw [show nar .char (104 : Int32) = (104 : Int32) from by decide] at V3
  have V3' : Arv Z h3 b kC .char (10 : Int32) [(.int (45 : Int32)), (.int (45 : Int32)), (.int (104 : Int32)), (.int (0 : Int32)), (.int (0 : Int32)), (.int (0 : Int32)), (.int (0 : Int32)), (.int (0 : Int32)), (.int (0 : Int32)), (.int (0 : Int32))] (.int (0 : Int32)) := V3
  have N3 := Fr.snoc X3 N2 gb
  refine Go.st (T' := T3) (g' := (mkF m 15 #[.val (.ref b)] [])) (fun _ zk => st3 _ zk) ?_
  refine Go.st (T' := T3) (g' := (mkF m 16 #[.val (.ref b)] [(.ref b)])) (fun _ zk => XS.aloadN X3.here hx rfl (hb hby d28_15) rfl rfl zk) ?_
  refine Go.st (T' := T3) (g' := (mkF m 17 #[.val (.ref b)] [(.int (3 : Int32)), (.ref b)])) (fun _ zk => XS.iconst X3.here hx rfl (hb hby d28_16) zk) ?_
  refine Go.st (T' := T3) (g' := (mkF m 19 #[.val (.ref b)] [(.int (101 : Int32)), (.int (3 : Int32)), (.ref b)])) (fun _ zk => XS.bipush X3.here hx rfl (hb hby d28_17) zk) ?_
  obtain ⟨T4, h4, X4, e4, W4, V4, st4⟩ := stCV X3 hx hZ e3 V3' (j := (3 : Int32)) (i := 3) (by decide) rfl (Nat.le_of_ble_eq_true rfl) (g := (mkF m 19 #[.val (.ref b)] [(.int (101 : Int32)), (.int (3 : Int32)), (.ref b)])) rfl rfl (hb hby d28_19)
  rw [show nar .char (101 : Int32) = (101 : Int32) from by decide] at V4
  have V4' : Arv Z h4 b kC .char (10 : Int32) [(.int (45 : Int32)), (.int (45 : Int32)), (.int (104 : Int32)), (.int (101 : Int32)), (.int (0 : Int32)), (.int (0 : Int32)), (.int (0 : Int32)), (.int (0 : Int32)), (.int (0 : Int32)), (.int (0 : Int32))] (.int (0 : Int32)) := V4
  have N4 := Fr.snoc X4 N3 gb
  refine Go.st (T' := T4) (g' := (mkF m 20 #[.val (.ref b)] [])) (fun _ zk => st4 _ zk) ?_
  refine Go.st (T' := T4) (g' := (mkF m 21 #[.val (.ref b)] [(.ref b)])) (fun _ zk => XS.aloadN X4.here hx rfl (hb hby d28_20) rfl rfl zk) ?_
  refine Go.st (T' := T4) (g' := (mkF m 22 #[.val (.ref b)] [(.int (4 : Int32)), (.ref b)])) (fun _ zk => XS.iconst X4.here hx rfl (hb hby d28_21) zk) ?_
  refine Go.st (T' := T4) (g' := (mkF m 24 #[.val (.ref b)] [(.int (108 : Int32)), (.int (4 : Int32)), (.ref b)])) (fun _ zk => XS.bipush X4.here hx rfl (hb hby d28_22) zk) ?_
  obtain ⟨T5, h5, X5, e5, W5, V5, st5⟩ := stCV X4 hx hZ e4 V4' (j := (4 : Int32)) (i := 4) (by decide) rfl (Nat.le_of_ble_eq_true rfl) (g := (mkF m 24 #[.val (.ref b)] [(.int (108 : Int32)), (.int (4 : Int32)), (.ref b)])) rfl rfl (hb hby d28_24)
  rw [show nar .char (108 : Int32) = (108 : Int32) from by decide] at V5
  have V5' : Arv Z h5 b kC .char (10 : Int32) [(.int (45 : Int32)), (.int (45 : Int32)), (.int (104 : Int32)), (.int (101 : Int32)), (.int (108 : Int32)), (.int (0 : Int32)), (.int (0 : Int32)), (.int (0 : Int32)), (.int (0 : Int32)), (.int (0 : Int32))] (.int (0 : Int32)) := V5
  have N5 := Fr.snoc X5 N4 gb
  refine Go.st (T' := T5) (g' := (mkF m 25 #[.val (.ref b)] [])) (fun _ zk => st5 _ zk) ?_
  refine Go.st (T' := T5) (g' := (mkF m 26 #[.val (.ref b)] [(.ref b)])) (fun _ zk => XS.aloadN X5.here hx rfl (hb hby d28_25) rfl rfl zk) ?_
  refine Go.st (T' := T5) (g' := (mkF m 27 #[.val (.ref b)] [(.int (5 : Int32)), (.ref b)])) (fun _ zk => XS.iconst X5.here hx rfl (hb hby d28_26) zk) ?_
  refine Go.st (T' := T5) (g' := (mkF m 29 #[.val (.ref b)] [(.int (112 : Int32)), (.int (5 : Int32)), (.ref b)])) (fun _ zk => XS.bipush X5.here hx rfl (hb hby d28_27) zk) ?_
  obtain ⟨T6, h6, X6, e6, W6, V6, st6⟩ := stCV X5 hx hZ e5 V5' (j := (5 : Int32)) (i := 5) (by decide) rfl (Nat.le_of_ble_eq_true rfl) (g := (mkF m 29 #[.val (.ref b)] [(.int (112 : Int32)), (.int (5 : Int32)), (.ref b)])) rfl rfl (hb hby d28_29)
  rw [show nar .char (112 : Int32) = (112 : Int32) from by decide] at V6
  have V6' : Arv Z h6 b kC .char (10 : Int32) [(.int (45 : Int32)), (.int (45 : Int32)), (.int (104 : Int32)), (.int (101 : Int32)), (.int (108 : Int32)), (.int (112 : Int32)), (.int (0 : Int32)), (.int (0 : Int32)), (.int (0 : Int32)), (.int (0 : Int32))] (.int (0 : Int32)) := V6
  have N6 := Fr.snoc X6 N5 gb
  refine Go.st (T' := T6) (g' := (mkF m 30 #[.val (.ref b)] [])) (fun _ zk => st6 _ zk) ?_
  refine Go.retV X6 hx hlk hret (hb hby d28_30) (by decide) (by decide) e6 ?_
  exact ⟨rfl, N6, (((((((Keep.refl h0 [b]).wr W1 (Or.inl (List.mem_of_getElem? (i := 0) rfl))).wr W2 (Or.inl (List.mem_of_getElem? (i := 0) rfl))).wr W3 (Or.inl (List.mem_of_getElem? (i := 0) rfl))).wr W4 (Or.inl (List.mem_of_getElem? (i := 0) rfl))).wr W5 (Or.inl (List.mem_of_getElem? (i := 0) rfl))).wr W6 (Or.inl (List.mem_of_getElem? (i := 0) rfl))), V6'⟩
theorem d11_0 : decode method_4_code 0 = .ok (.aload_n 0, 1) := by decide +kernel
theorem d11_1 : decode method_4_code 1 = .ok (.iconst 0, 1) := by decide +kernel
theorem d11_2 : decode method_4_code 2 = .ok (.bipush 45, 2) := by decide +kernel
theorem d11_4 : decode method_4_code 4 = .ok (.castore, 1) := by decide +kernel
theorem d11_5 : decode method_4_code 5 = .ok (.aload_n 0, 1) := by decide +kernel
theorem d11_6 : decode method_4_code 6 = .ok (.iconst 1, 1) := by decide +kernel
theorem d11_7 : decode method_4_code 7 = .ok (.bipush 45, 2) := by decide +kernel
theorem d11_9 : decode method_4_code 9 = .ok (.castore, 1) := by decide +kernel
theorem d11_10 : decode method_4_code 10 = .ok (.aload_n 0, 1) := by decide +kernel
theorem d11_11 : decode method_4_code 11 = .ok (.iconst 2, 1) := by decide +kernel
theorem d11_12 : decode method_4_code 12 = .ok (.bipush 118, 2) := by decide +kernel
theorem d11_14 : decode method_4_code 14 = .ok (.castore, 1) := by decide +kernel
theorem d11_15 : decode method_4_code 15 = .ok (.aload_n 0, 1) := by decide +kernel
theorem d11_16 : decode method_4_code 16 = .ok (.iconst 3, 1) := by decide +kernel
theorem d11_17 : decode method_4_code 17 = .ok (.bipush 101, 2) := by decide +kernel
theorem d11_19 : decode method_4_code 19 = .ok (.castore, 1) := by decide +kernel
theorem d11_20 : decode method_4_code 20 = .ok (.aload_n 0, 1) := by decide +kernel
theorem d11_21 : decode method_4_code 21 = .ok (.iconst 4, 1) := by decide +kernel
theorem d11_22 : decode method_4_code 22 = .ok (.bipush 114, 2) := by decide +kernel
theorem d11_24 : decode method_4_code 24 = .ok (.castore, 1) := by decide +kernel
theorem d11_25 : decode method_4_code 25 = .ok (.aload_n 0, 1) := by decide +kernel
theorem d11_26 : decode method_4_code 26 = .ok (.iconst 5, 1) := by decide +kernel
theorem d11_27 : decode method_4_code 27 = .ok (.bipush 115, 2) := by decide +kernel
theorem d11_29 : decode method_4_code 29 = .ok (.castore, 1) := by decide +kernel
theorem d11_30 : decode method_4_code 30 = .ok (.aload_n 0, 1) := by decide +kernel
theorem d11_31 : decode method_4_code 31 = .ok (.bipush 6, 2) := by decide +kernel
theorem d11_33 : decode method_4_code 33 = .ok (.bipush 105, 2) := by decide +kernel
theorem d11_35 : decode method_4_code 35 = .ok (.castore, 1) := by decide +kernel
theorem d11_36 : decode method_4_code 36 = .ok (.aload_n 0, 1) := by decide +kernel
theorem d11_37 : decode method_4_code 37 = .ok (.bipush 7, 2) := by decide +kernel
theorem d11_39 : decode method_4_code 39 = .ok (.bipush 111, 2) := by decide +kernel
theorem d11_41 : decode method_4_code 41 = .ok (.castore, 1) := by decide +kernel
theorem d11_42 : decode method_4_code 42 = .ok (.aload_n 0, 1) := by decide +kernel
theorem d11_43 : decode method_4_code 43 = .ok (.bipush 8, 2) := by decide +kernel
theorem d11_45 : decode method_4_code 45 = .ok (.bipush 110, 2) := by decide +kernel
theorem d11_47 : decode method_4_code 47 = .ok (.castore, 1) := by decide +kernel
theorem d11_48 : decode method_4_code 48 = .ok (.return_, 1) := by decide +kernel
def rr_version : Room := { frames := 0, cells := 0, slots := 0, locals := 0 }
set_option maxRecDepth 65536 in
set_option maxHeartbeats 40000000 in
theorem rm_version (l : Launch) (Z : State) (a0 : Array Value) (hw : ∀ d ∈ tables_1, d.before a0 Z = true) (ws : List Jvm.Cond) (b : Addr) (kC : ClassId) (h0 : Heap) (n0 : Nat) (Z0 : n0 ≤ h0.size) (VC : Arv Z h0 b kC .char (10 : Int32) [(.int (0 : Int32)), (.int (0 : Int32)), (.int (0 : Int32)), (.int (0 : Int32)), (.int (0 : Int32)), (.int (0 : Int32)), (.int (0 : Int32)), (.int (0 : Int32)), (.int (0 : Int32)), (.int (0 : Int32))] (.int (0 : Int32))) (gb : n0 ≤ b) :
    Con l Z (⟨"com/example/tierbook/tierbook/cli/FlagNamedPinLaw", "version", "([C)V"⟩ : MethodName) method_4_code 1 none ws rr_version #[(.ref b)] h0 (fun v h L => v = none ∧ Fr n0 L ∧ Keep h0 h [b] ∧ Arv Z h b kC .char (10 : Int32) [(.int (45 : Int32)), (.int (45 : Int32)), (.int (118 : Int32)), (.int (101 : Int32)), (.int (114 : Int32)), (.int (115 : Int32)), (.int (105 : Int32)), (.int (111 : Int32)), (.int (110 : Int32)), (.int (0 : Int32))] (.int (0 : Int32))) := by
  refine Con.enter (plainFor_of_name pn24) ?_
  intro p e s m below meth c s₁ X0 hx hZ hby hml hret hlk hown hnm e0
  have N0 := Fr.nil n0
  refine Go.cast (g' := (mkF m 0 #[.val (.ref b)] [])) (by first | rfl | (simp [entryFrame, mkF, argsToLocals, Value.category]; done)) ?_
  refine Go.st (T' := s₁) (g' := (mkF m 1 #[.val (.ref b)] [(.ref b)])) (fun _ zk => XS.aloadN X0.here hx rfl (hb hby d11_0) rfl rfl zk) ?_
  refine Go.st (T' := s₁) (g' := (mkF m 2 #[.val (.ref b)] [(.int (0 : Int32)), (.ref b)])) (fun _ zk => XS.iconst X0.here hx rfl (hb hby d11_1) zk) ?_
  refine Go.st (T' := s₁) (g' := (mkF m 4 #[.val (.ref b)] [(.int (45 : Int32)), (.int (0 : Int32)), (.ref b)])) (fun _ zk => XS.bipush X0.here hx rfl (hb hby d11_2) zk) ?_
  obtain ⟨T1, h1, X1, e1, W1, V1, st1⟩ := stCV X0 hx hZ e0 VC (j := (0 : Int32)) (i := 0) (by decide) rfl (Nat.le_of_ble_eq_true rfl) (g := (mkF m 4 #[.val (.ref b)] [(.int (45 : Int32)), (.int (0 : Int32)), (.ref b)])) rfl rfl (hb hby d11_4)
  rw [show nar .char (45 : Int32) = (45 : Int32) from by decide] at V1
  have V1' : Arv Z h1 b kC .char (10 : Int32) [(.int (45 : Int32)), (.int (0 : Int32)), (.int (0 : Int32)), (.int (0 : Int32)), (.int (0 : Int32)), (.int (0 : Int32)), (.int (0 : Int32)), (.int (0 : Int32)), (.int (0 : Int32)), (.int (0 : Int32))] (.int (0 : Int32)) := V1
  have N1 := Fr.snoc X1 N0 gb
  refine Go.st (T' := T1) (g' := (mkF m 5 #[.val (.ref b)] [])) (fun _ zk => st1 _ zk) ?_
  refine Go.st (T' := T1) (g' := (mkF m 6 #[.val (.ref b)] [(.ref b)])) (fun _ zk => XS.aloadN X1.here hx rfl (hb hby d11_5) rfl rfl zk) ?_
  refine Go.st (T' := T1) (g' := (mkF m 7 #[.val (.ref b)] [(.int (1 : Int32)), (.ref b)])) (fun _ zk => XS.iconst X1.here hx rfl (hb hby d11_6) zk) ?_
  refine Go.st (T' := T1) (g' := (mkF m 9 #[.val (.ref b)] [(.int (45 : Int32)), (.int (1 : Int32)), (.ref b)])) (fun _ zk => XS.bipush X1.here hx rfl (hb hby d11_7) zk) ?_
  obtain ⟨T2, h2, X2, e2, W2, V2, st2⟩ := stCV X1 hx hZ e1 V1' (j := (1 : Int32)) (i := 1) (by decide) rfl (Nat.le_of_ble_eq_true rfl) (g := (mkF m 9 #[.val (.ref b)] [(.int (45 : Int32)), (.int (1 : Int32)), (.ref b)])) rfl rfl (hb hby d11_9)
  rw [show nar .char (45 : Int32) = (45 : Int32) from by decide] at V2
  have V2' : Arv Z h2 b kC .char (10 : Int32) [(.int (45 : Int32)), (.int (45 : Int32)), (.int (0 : Int32)), (.int (0 : Int32)), (.int (0 : Int32)), (.int (0 : Int32)), (.int (0 : Int32)), (.int (0 : Int32)), (.int (0 : Int32)), (.int (0 : Int32))] (.int (0 : Int32)) := V2
  have N2 := Fr.snoc X2 N1 gb
  refine Go.st (T' := T2) (g' := (mkF m 10 #[.val (.ref b)] [])) (fun _ zk => st2 _ zk) ?_
  refine Go.st (T' := T2) (g' := (mkF m 11 #[.val (.ref b)] [(.ref b)])) (fun _ zk => XS.aloadN X2.here hx rfl (hb hby d11_10) rfl rfl zk) ?_
  refine Go.st (T' := T2) (g' := (mkF m 12 #[.val (.ref b)] [(.int (2 : Int32)), (.ref b)])) (fun _ zk => XS.iconst X2.here hx rfl (hb hby d11_11) zk) ?_
  refine Go.st (T' := T2) (g' := (mkF m 14 #[.val (.ref b)] [(.int (118 : Int32)), (.int (2 : Int32)), (.ref b)])) (fun _ zk => XS.bipush X2.here hx rfl (hb hby d11_12) zk) ?_
  obtain ⟨T3, h3, X3, e3, W3, V3, st3⟩ := stCV X2 hx hZ e2 V2' (j := (2 : Int32)) (i := 2) (by decide) rfl (Nat.le_of_ble_eq_true rfl) (g := (mkF m 14 #[.val (.ref b)] [(.int (118 : Int32)), (.int (2 : Int32)), (.ref b)])) rfl rfl (hb hby d11_14)
  rw [show nar .char (118 : Int32) = (118 : Int32) from by decide] at V3
  have V3' : Arv Z h3 b kC .char (10 : Int32) [(.int (45 : Int32)), (.int (45 : Int32)), (.int (118 : Int32)), (.int (0 : Int32)), (.int (0 : Int32)), (.int (0 : Int32)), (.int (0 : Int32)), (.int (0 : Int32)), (.int (0 : Int32)), (.int (0 : Int32))] (.int (0 : Int32)) := V3
  have N3 := Fr.snoc X3 N2 gb
  refine Go.st (T' := T3) (g' := (mkF m 15 #[.val (.ref b)] [])) (fun _ zk => st3 _ zk) ?_
  refine Go.st (T' := T3) (g' := (mkF m 16 #[.val (.ref b)] [(.ref b)])) (fun _ zk => XS.aloadN X3.here hx rfl (hb hby d11_15) rfl rfl zk) ?_
  refine Go.st (T' := T3) (g' := (mkF m 17 #[.val (.ref b)] [(.int (3 : Int32)), (.ref b)])) (fun _ zk => XS.iconst X3.here hx rfl (hb hby d11_16) zk) ?_
  refine Go.st (T' := T3) (g' := (mkF m 19 #[.val (.ref b)] [(.int (101 : Int32)), (.int (3 : Int32)), (.ref b)])) (fun _ zk => XS.bipush X3.here hx rfl (hb hby d11_17) zk) ?_
  obtain ⟨T4, h4, X4, e4, W4, V4, st4⟩ := stCV X3 hx hZ e3 V3' (j := (3 : Int32)) (i := 3) (by decide) rfl (Nat.le_of_ble_eq_true rfl) (g := (mkF m 19 #[.val (.ref b)] [(.int (101 : Int32)), (.int (3 : Int32)), (.ref b)])) rfl rfl (hb hby d11_19)
  rw [show nar .char (101 : Int32) = (101 : Int32) from by decide] at V4
  have V4' : Arv Z h4 b kC .char (10 : Int32) [(.int (45 : Int32)), (.int (45 : Int32)), (.int (118 : Int32)), (.int (101 : Int32)), (.int (0 : Int32)), (.int (0 : Int32)), (.int (0 : Int32)), (.int (0 : Int32)), (.int (0 : Int32)), (.int (0 : Int32))] (.int (0 : Int32)) := V4
  have N4 := Fr.snoc X4 N3 gb
  refine Go.st (T' := T4) (g' := (mkF m 20 #[.val (.ref b)] [])) (fun _ zk => st4 _ zk) ?_
  refine Go.st (T' := T4) (g' := (mkF m 21 #[.val (.ref b)] [(.ref b)])) (fun _ zk => XS.aloadN X4.here hx rfl (hb hby d11_20) rfl rfl zk) ?_
  refine Go.st (T' := T4) (g' := (mkF m 22 #[.val (.ref b)] [(.int (4 : Int32)), (.ref b)])) (fun _ zk => XS.iconst X4.here hx rfl (hb hby d11_21) zk) ?_
  refine Go.st (T' := T4) (g' := (mkF m 24 #[.val (.ref b)] [(.int (114 : Int32)), (.int (4 : Int32)), (.ref b)])) (fun _ zk => XS.bipush X4.here hx rfl (hb hby d11_22) zk) ?_
  obtain ⟨T5, h5, X5, e5, W5, V5, st5⟩ := stCV X4 hx hZ e4 V4' (j := (4 : Int32)) (i := 4) (by decide) rfl (Nat.le_of_ble_eq_true rfl) (g := (mkF m 24 #[.val (.ref b)] [(.int (114 : Int32)), (.int (4 : Int32)), (.ref b)])) rfl rfl (hb hby d11_24)
  rw [show nar .char (114 : Int32) = (114 : Int32) from by decide] at V5
  have V5' : Arv Z h5 b kC .char (10 : Int32) [(.int (45 : Int32)), (.int (45 : Int32)), (.int (118 : Int32)), (.int (101 : Int32)), (.int (114 : Int32)), (.int (0 : Int32)), (.int (0 : Int32)), (.int (0 : Int32)), (.int (0 : Int32)), (.int (0 : Int32))] (.int (0 : Int32)) := V5
  have N5 := Fr.snoc X5 N4 gb
  refine Go.st (T' := T5) (g' := (mkF m 25 #[.val (.ref b)] [])) (fun _ zk => st5 _ zk) ?_
  refine Go.st (T' := T5) (g' := (mkF m 26 #[.val (.ref b)] [(.ref b)])) (fun _ zk => XS.aloadN X5.here hx rfl (hb hby d11_25) rfl rfl zk) ?_
  refine Go.st (T' := T5) (g' := (mkF m 27 #[.val (.ref b)] [(.int (5 : Int32)), (.ref b)])) (fun _ zk => XS.iconst X5.here hx rfl (hb hby d11_26) zk) ?_
  refine Go.st (T' := T5) (g' := (mkF m 29 #[.val (.ref b)] [(.int (115 : Int32)), (.int (5 : Int32)), (.ref b)])) (fun _ zk => XS.bipush X5.here hx rfl (hb hby d11_27) zk) ?_
  obtain ⟨T6, h6, X6, e6, W6, V6, st6⟩ := stCV X5 hx hZ e5 V5' (j := (5 : Int32)) (i := 5) (by decide) rfl (Nat.le_of_ble_eq_true rfl) (g := (mkF m 29 #[.val (.ref b)] [(.int (115 : Int32)), (.int (5 : Int32)), (.ref b)])) rfl rfl (hb hby d11_29)
  rw [show nar .char (115 : Int32) = (115 : Int32) from by decide] at V6
  have V6' : Arv Z h6 b kC .char (10 : Int32) [(.int (45 : Int32)), (.int (45 : Int32)), (.int (118 : Int32)), (.int (101 : Int32)), (.int (114 : Int32)), (.int (115 : Int32)), (.int (0 : Int32)), (.int (0 : Int32)), (.int (0 : Int32)), (.int (0 : Int32))] (.int (0 : Int32)) := V6
  have N6 := Fr.snoc X6 N5 gb
  refine Go.st (T' := T6) (g' := (mkF m 30 #[.val (.ref b)] [])) (fun _ zk => st6 _ zk) ?_
  refine Go.st (T' := T6) (g' := (mkF m 31 #[.val (.ref b)] [(.ref b)])) (fun _ zk => XS.aloadN X6.here hx rfl (hb hby d11_30) rfl rfl zk) ?_
  refine Go.st (T' := T6) (g' := (mkF m 33 #[.val (.ref b)] [(.int (6 : Int32)), (.ref b)])) (fun _ zk => XS.bipush X6.here hx rfl (hb hby d11_31) zk) ?_
  refine Go.st (T' := T6) (g' := (mkF m 35 #[.val (.ref b)] [(.int (105 : Int32)), (.int (6 : Int32)), (.ref b)])) (fun _ zk => XS.bipush X6.here hx rfl (hb hby d11_33) zk) ?_
  obtain ⟨T7, h7, X7, e7, W7, V7, st7⟩ := stCV X6 hx hZ e6 V6' (j := (6 : Int32)) (i := 6) (by decide) rfl (Nat.le_of_ble_eq_true rfl) (g := (mkF m 35 #[.val (.ref b)] [(.int (105 : Int32)), (.int (6 : Int32)), (.ref b)])) rfl rfl (hb hby d11_35)
  rw [show nar .char (105 : Int32) = (105 : Int32) from by decide] at V7
  have V7' : Arv Z h7 b kC .char (10 : Int32) [(.int (45 : Int32)), (.int (45 : Int32)), (.int (118 : Int32)), (.int (101 : Int32)), (.int (114 : Int32)), (.int (115 : Int32)), (.int (105 : Int32)), (.int (0 : Int32)), (.int (0 : Int32)), (.int (0 : Int32))] (.int (0 : Int32)) := V7
  have N7 := Fr.snoc X7 N6 gb
  refine Go.st (T' := T7) (g' := (mkF m 36 #[.val (.ref b)] [])) (fun _ zk => st7 _ zk) ?_
  refine Go.st (T' := T7) (g' := (mkF m 37 #[.val (.ref b)] [(.ref b)])) (fun _ zk => XS.aloadN X7.here hx rfl (hb hby d11_36) rfl rfl zk) ?_
  refine Go.st (T' := T7) (g' := (mkF m 39 #[.val (.ref b)] [(.int (7 : Int32)), (.ref b)])) (fun _ zk => XS.bipush X7.here hx rfl (hb hby d11_37) zk) ?_
  refine Go.st (T' := T7) (g' := (mkF m 41 #[.val (.ref b)] [(.int (111 : Int32)), (.int (7 : Int32)), (.ref b)])) (fun _ zk => XS.bipush X7.here hx rfl (hb hby d11_39) zk) ?_
  obtain ⟨T8, h8, X8, e8, W8, V8, st8⟩ := stCV X7 hx hZ e7 V7' (j := (7 : Int32)) (i := 7) (by decide) rfl (Nat.le_of_ble_eq_true rfl) (g := (mkF m 41 #[.val (.ref b)] [(.int (111 : Int32)), (.int (7 : Int32)), (.ref b)])) rfl rfl (hb hby d11_41)
  rw [show nar .char (111 : Int32) = (111 : Int32) from by decide] at V8
  have V8' : Arv Z h8 b kC .char (10 : Int32) [(.int (45 : Int32)), (.int (45 : Int32)), (.int (118 : Int32)), (.int (101 : Int32)), (.int (114 : Int32)), (.int (115 : Int32)), (.int (105 : Int32)), (.int (111 : Int32)), (.int (0 : Int32)), (.int (0 : Int32))] (.int (0 : Int32)) := V8
  have N8 := Fr.snoc X8 N7 gb
  refine Go.st (T' := T8) (g' := (mkF m 42 #[.val (.ref b)] [])) (fun _ zk => st8 _ zk) ?_
  refine Go.st (T' := T8) (g' := (mkF m 43 #[.val (.ref b)] [(.ref b)])) (fun _ zk => XS.aloadN X8.here hx rfl (hb hby d11_42) rfl rfl zk) ?_
  refine Go.st (T' := T8) (g' := (mkF m 45 #[.val (.ref b)] [(.int (8 : Int32)), (.ref b)])) (fun _ zk => XS.bipush X8.here hx rfl (hb hby d11_43) zk) ?_
  refine Go.st (T' := T8) (g' := (mkF m 47 #[.val (.ref b)] [(.int (110 : Int32)), (.int (8 : Int32)), (.ref b)])) (fun _ zk => XS.bipush X8.here hx rfl (hb hby d11_45) zk) ?_
  obtain ⟨T9, h9, X9, e9, W9, V9, st9⟩ := stCV X8 hx hZ e8 V8' (j := (8 : Int32)) (i := 8) (by decide) rfl (Nat.le_of_ble_eq_true rfl) (g := (mkF m 47 #[.val (.ref b)] [(.int (110 : Int32)), (.int (8 : Int32)), (.ref b)])) rfl rfl (hb hby d11_47)
  rw [show nar .char (110 : Int32) = (110 : Int32) from by decide] at V9
  have V9' : Arv Z h9 b kC .char (10 : Int32) [(.int (45 : Int32)), (.int (45 : Int32)), (.int (118 : Int32)), (.int (101 : Int32)), (.int (114 : Int32)), (.int (115 : Int32)), (.int (105 : Int32)), (.int (111 : Int32)), (.int (110 : Int32)), (.int (0 : Int32))] (.int (0 : Int32)) := V9
  have N9 := Fr.snoc X9 N8 gb
  refine Go.st (T' := T9) (g' := (mkF m 48 #[.val (.ref b)] [])) (fun _ zk => st9 _ zk) ?_
  refine Go.retV X9 hx hlk hret (hb hby d11_48) (by decide) (by decide) e9 ?_
  exact ⟨rfl, N9, ((((((((((Keep.refl h0 [b]).wr W1 (Or.inl (List.mem_of_getElem? (i := 0) rfl))).wr W2 (Or.inl (List.mem_of_getElem? (i := 0) rfl))).wr W3 (Or.inl (List.mem_of_getElem? (i := 0) rfl))).wr W4 (Or.inl (List.mem_of_getElem? (i := 0) rfl))).wr W5 (Or.inl (List.mem_of_getElem? (i := 0) rfl))).wr W6 (Or.inl (List.mem_of_getElem? (i := 0) rfl))).wr W7 (Or.inl (List.mem_of_getElem? (i := 0) rfl))).wr W8 (Or.inl (List.mem_of_getElem? (i := 0) rfl))).wr W9 (Or.inl (List.mem_of_getElem? (i := 0) rfl))), V9'⟩
theorem d1_0 : decode method_5_code 0 = .ok (.iload_n 1, 1) := by decide +kernel
theorem d1_1 : decode method_5_code 1 = .ok (.ifCond .gt 14, 3) := by decide +kernel
theorem d1_15 : decode method_5_code 15 = .ok (.iload_n 1, 1) := by decide +kernel
theorem d1_16 : decode method_5_code 16 = .ok (.iconst 1, 1) := by decide +kernel
theorem d1_17 : decode method_5_code 17 = .ok (.if_icmp .ne 20, 3) := by decide +kernel
theorem d1_20 : decode method_5_code 20 = .ok (.new 25, 3) := by decide +kernel
theorem w7 {a0 : Array Value} {Z : State} (hw : ∀ d ∈ tables_1, d.before a0 Z = true) : ((Jvm.Cond.classLink "com/example/tierbook/tierbook/cli/FlagNamedPinLaw" (25 : Nat) "java/lang/String")).before a0 Z = true := hw _ (List.mem_of_getElem? (i := 7) rfl)
theorem d1_23 : decode method_5_code 23 = .ok (.dup, 1) := by decide +kernel
theorem d1_24 : decode method_5_code 24 = .ok (.iconst 1, 1) := by decide +kernel
theorem d1_25 : decode method_5_code 25 = .ok (.newarray .char, 2) := by decide +kernel
theorem w2 {a0 : Array Value} {Z : State} (hw : ∀ d ∈ tables_1, d.before a0 Z = true) : ((Jvm.Cond.arrayClass Jvm.ClassFile.FieldType.char)).before a0 Z = true := hw _ (List.mem_of_getElem? (i := 2) rfl)
theorem d1_27 : decode method_5_code 27 = .ok (.dup, 1) := by decide +kernel
theorem d1_28 : decode method_5_code 28 = .ok (.iconst 0, 1) := by decide +kernel
theorem d1_29 : decode method_5_code 29 = .ok (.aload_n 0, 1) := by decide +kernel
theorem d1_30 : decode method_5_code 30 = .ok (.iconst 0, 1) := by decide +kernel
theorem d1_31 : decode method_5_code 31 = .ok (.caload, 1) := by decide +kernel
theorem d1_32 : decode method_5_code 32 = .ok (.castore, 1) := by decide +kernel
theorem w12 {a0 : Array Value} {Z : State} (hw : ∀ d ∈ tables_1, d.before a0 Z = true) : ((Jvm.Cond.code ({ cls := "java/lang/String", name := "<init>", desc := "([C)V" } : Jvm.MethodName) jdk_42_method_3_code (2 : Nat) (Option.none : Option Jvm.ClassFile.FieldType))).before a0 Z = true := hw _ (List.mem_of_getElem? (i := 12) rfl)
theorem pd25 : parseMethodDescriptor "([C)V" = some ⟨[(.array .char)], none⟩ := by decide +kernel
theorem d1_33 : decode method_5_code 33 = .ok (.invokespecial 49, 3) := by decide +kernel
theorem w10 {a0 : Array Value} {Z : State} (hw : ∀ d ∈ tables_1, d.before a0 Z = true) : ((Jvm.Cond.methodLink "com/example/tierbook/tierbook/cli/FlagNamedPinLaw" (49 : Nat) ({ cls := "java/lang/String", name := "<init>", desc := "([C)V" } : Jvm.MethodName))).before a0 Z = true := hw _ (List.mem_of_getElem? (i := 10) rfl)
theorem w11 {a0 : Array Value} {Z : State} (hw : ∀ d ∈ tables_1, d.before a0 Z = true) : ((Jvm.Cond.instanceMethod ({ cls := "java/lang/String", name := "<init>", desc := "([C)V" } : Jvm.MethodName))).before a0 Z = true := hw _ (List.mem_of_getElem? (i := 11) rfl)
theorem d1_36 : decode method_5_code 36 = .ok (.areturn, 1) := by decide +kernel
theorem d1_37 : decode method_5_code 37 = .ok (.iload_n 1, 1) := by decide +kernel
theorem d1_38 : decode method_5_code 38 = .ok (.iconst 2, 1) := by decide +kernel
theorem d1_39 : decode method_5_code 39 = .ok (.if_icmp .ne 26, 3) := by decide +kernel
theorem d1_42 : decode method_5_code 42 = .ok (.new 25, 3) := by decide +kernel
theorem d1_45 : decode method_5_code 45 = .ok (.dup, 1) := by decide +kernel
theorem d1_46 : decode method_5_code 46 = .ok (.iconst 2, 1) := by decide +kernel
theorem d1_47 : decode method_5_code 47 = .ok (.newarray .char, 2) := by decide +kernel
theorem d1_49 : decode method_5_code 49 = .ok (.dup, 1) := by decide +kernel
theorem d1_50 : decode method_5_code 50 = .ok (.iconst 0, 1) := by decide +kernel
theorem d1_51 : decode method_5_code 51 = .ok (.aload_n 0, 1) := by decide +kernel
theorem d1_52 : decode method_5_code 52 = .ok (.iconst 0, 1) := by decide +kernel
theorem d1_53 : decode method_5_code 53 = .ok (.caload, 1) := by decide +kernel
theorem d1_54 : decode method_5_code 54 = .ok (.castore, 1) := by decide +kernel
theorem d1_55 : decode method_5_code 55 = .ok (.dup, 1) := by decide +kernel
theorem d1_56 : decode method_5_code 56 = .ok (.iconst 1, 1) := by decide +kernel
theorem d1_57 : decode method_5_code 57 = .ok (.aload_n 0, 1) := by decide +kernel
theorem d1_58 : decode method_5_code 58 = .ok (.iconst 1, 1) := by decide +kernel
theorem d1_59 : decode method_5_code 59 = .ok (.caload, 1) := by decide +kernel
theorem d1_60 : decode method_5_code 60 = .ok (.castore, 1) := by decide +kernel
theorem d1_61 : decode method_5_code 61 = .ok (.invokespecial 49, 3) := by decide +kernel
theorem d1_64 : decode method_5_code 64 = .ok (.areturn, 1) := by decide +kernel
theorem d1_65 : decode method_5_code 65 = .ok (.iload_n 1, 1) := by decide +kernel
theorem d1_66 : decode method_5_code 66 = .ok (.iconst 3, 1) := by decide +kernel
theorem d1_67 : decode method_5_code 67 = .ok (.if_icmp .ne 32, 3) := by decide +kernel
theorem d1_70 : decode method_5_code 70 = .ok (.new 25, 3) := by decide +kernel
theorem d1_73 : decode method_5_code 73 = .ok (.dup, 1) := by decide +kernel
theorem d1_74 : decode method_5_code 74 = .ok (.iconst 3, 1) := by decide +kernel
theorem d1_75 : decode method_5_code 75 = .ok (.newarray .char, 2) := by decide +kernel
theorem d1_77 : decode method_5_code 77 = .ok (.dup, 1) := by decide +kernel
theorem d1_78 : decode method_5_code 78 = .ok (.iconst 0, 1) := by decide +kernel
theorem d1_79 : decode method_5_code 79 = .ok (.aload_n 0, 1) := by decide +kernel
theorem d1_80 : decode method_5_code 80 = .ok (.iconst 0, 1) := by decide +kernel
theorem d1_81 : decode method_5_code 81 = .ok (.caload, 1) := by decide +kernel
theorem d1_82 : decode method_5_code 82 = .ok (.castore, 1) := by decide +kernel
theorem d1_83 : decode method_5_code 83 = .ok (.dup, 1) := by decide +kernel
theorem d1_84 : decode method_5_code 84 = .ok (.iconst 1, 1) := by decide +kernel
theorem d1_85 : decode method_5_code 85 = .ok (.aload_n 0, 1) := by decide +kernel
theorem d1_86 : decode method_5_code 86 = .ok (.iconst 1, 1) := by decide +kernel
theorem d1_87 : decode method_5_code 87 = .ok (.caload, 1) := by decide +kernel
theorem d1_88 : decode method_5_code 88 = .ok (.castore, 1) := by decide +kernel
theorem d1_89 : decode method_5_code 89 = .ok (.dup, 1) := by decide +kernel
theorem d1_90 : decode method_5_code 90 = .ok (.iconst 2, 1) := by decide +kernel
theorem d1_91 : decode method_5_code 91 = .ok (.aload_n 0, 1) := by decide +kernel
theorem d1_92 : decode method_5_code 92 = .ok (.iconst 2, 1) := by decide +kernel
theorem d1_93 : decode method_5_code 93 = .ok (.caload, 1) := by decide +kernel
theorem d1_94 : decode method_5_code 94 = .ok (.castore, 1) := by decide +kernel
theorem d1_95 : decode method_5_code 95 = .ok (.invokespecial 49, 3) := by decide +kernel
theorem d1_98 : decode method_5_code 98 = .ok (.areturn, 1) := by decide +kernel
theorem d1_99 : decode method_5_code 99 = .ok (.iload_n 1, 1) := by decide +kernel
theorem d1_100 : decode method_5_code 100 = .ok (.iconst 4, 1) := by decide +kernel
theorem d1_101 : decode method_5_code 101 = .ok (.if_icmp .ne 38, 3) := by decide +kernel
theorem d1_104 : decode method_5_code 104 = .ok (.new 25, 3) := by decide +kernel
theorem d1_107 : decode method_5_code 107 = .ok (.dup, 1) := by decide +kernel
theorem d1_108 : decode method_5_code 108 = .ok (.iconst 4, 1) := by decide +kernel
theorem d1_109 : decode method_5_code 109 = .ok (.newarray .char, 2) := by decide +kernel
theorem d1_111 : decode method_5_code 111 = .ok (.dup, 1) := by decide +kernel
theorem d1_112 : decode method_5_code 112 = .ok (.iconst 0, 1) := by decide +kernel
theorem d1_113 : decode method_5_code 113 = .ok (.aload_n 0, 1) := by decide +kernel
theorem d1_114 : decode method_5_code 114 = .ok (.iconst 0, 1) := by decide +kernel
theorem d1_115 : decode method_5_code 115 = .ok (.caload, 1) := by decide +kernel
theorem d1_116 : decode method_5_code 116 = .ok (.castore, 1) := by decide +kernel
theorem d1_117 : decode method_5_code 117 = .ok (.dup, 1) := by decide +kernel
theorem d1_118 : decode method_5_code 118 = .ok (.iconst 1, 1) := by decide +kernel
theorem d1_119 : decode method_5_code 119 = .ok (.aload_n 0, 1) := by decide +kernel
theorem d1_120 : decode method_5_code 120 = .ok (.iconst 1, 1) := by decide +kernel
theorem d1_121 : decode method_5_code 121 = .ok (.caload, 1) := by decide +kernel
theorem d1_122 : decode method_5_code 122 = .ok (.castore, 1) := by decide +kernel
theorem d1_123 : decode method_5_code 123 = .ok (.dup, 1) := by decide +kernel
theorem d1_124 : decode method_5_code 124 = .ok (.iconst 2, 1) := by decide +kernel
theorem d1_125 : decode method_5_code 125 = .ok (.aload_n 0, 1) := by decide +kernel
theorem d1_126 : decode method_5_code 126 = .ok (.iconst 2, 1) := by decide +kernel
theorem d1_127 : decode method_5_code 127 = .ok (.caload, 1) := by decide +kernel
theorem d1_128 : decode method_5_code 128 = .ok (.castore, 1) := by decide +kernel
theorem d1_129 : decode method_5_code 129 = .ok (.dup, 1) := by decide +kernel
theorem d1_130 : decode method_5_code 130 = .ok (.iconst 3, 1) := by decide +kernel
theorem d1_131 : decode method_5_code 131 = .ok (.aload_n 0, 1) := by decide +kernel
theorem d1_132 : decode method_5_code 132 = .ok (.iconst 3, 1) := by decide +kernel
theorem d1_133 : decode method_5_code 133 = .ok (.caload, 1) := by decide +kernel
theorem d1_134 : decode method_5_code 134 = .ok (.castore, 1) := by decide +kernel
theorem d1_135 : decode method_5_code 135 = .ok (.invokespecial 49, 3) := by decide +kernel
theorem d1_138 : decode method_5_code 138 = .ok (.areturn, 1) := by decide +kernel
theorem d1_139 : decode method_5_code 139 = .ok (.iload_n 1, 1) := by decide +kernel
theorem d1_140 : decode method_5_code 140 = .ok (.iconst 5, 1) := by decide +kernel
theorem d1_141 : decode method_5_code 141 = .ok (.if_icmp .ne 44, 3) := by decide +kernel
theorem d1_144 : decode method_5_code 144 = .ok (.new 25, 3) := by decide +kernel
theorem d1_147 : decode method_5_code 147 = .ok (.dup, 1) := by decide +kernel
theorem d1_148 : decode method_5_code 148 = .ok (.iconst 5, 1) := by decide +kernel
theorem d1_149 : decode method_5_code 149 = .ok (.newarray .char, 2) := by decide +kernel
theorem d1_151 : decode method_5_code 151 = .ok (.dup, 1) := by decide +kernel
theorem d1_152 : decode method_5_code 152 = .ok (.iconst 0, 1) := by decide +kernel
theorem d1_153 : decode method_5_code 153 = .ok (.aload_n 0, 1) := by decide +kernel
theorem d1_154 : decode method_5_code 154 = .ok (.iconst 0, 1) := by decide +kernel
theorem d1_155 : decode method_5_code 155 = .ok (.caload, 1) := by decide +kernel
theorem d1_156 : decode method_5_code 156 = .ok (.castore, 1) := by decide +kernel
theorem d1_157 : decode method_5_code 157 = .ok (.dup, 1) := by decide +kernel
theorem d1_158 : decode method_5_code 158 = .ok (.iconst 1, 1) := by decide +kernel
theorem d1_159 : decode method_5_code 159 = .ok (.aload_n 0, 1) := by decide +kernel
theorem d1_160 : decode method_5_code 160 = .ok (.iconst 1, 1) := by decide +kernel
theorem d1_161 : decode method_5_code 161 = .ok (.caload, 1) := by decide +kernel
theorem d1_162 : decode method_5_code 162 = .ok (.castore, 1) := by decide +kernel
theorem d1_163 : decode method_5_code 163 = .ok (.dup, 1) := by decide +kernel
theorem d1_164 : decode method_5_code 164 = .ok (.iconst 2, 1) := by decide +kernel
theorem d1_165 : decode method_5_code 165 = .ok (.aload_n 0, 1) := by decide +kernel
theorem d1_166 : decode method_5_code 166 = .ok (.iconst 2, 1) := by decide +kernel
theorem d1_167 : decode method_5_code 167 = .ok (.caload, 1) := by decide +kernel
theorem d1_168 : decode method_5_code 168 = .ok (.castore, 1) := by decide +kernel
theorem d1_169 : decode method_5_code 169 = .ok (.dup, 1) := by decide +kernel
theorem d1_170 : decode method_5_code 170 = .ok (.iconst 3, 1) := by decide +kernel
theorem d1_171 : decode method_5_code 171 = .ok (.aload_n 0, 1) := by decide +kernel
theorem d1_172 : decode method_5_code 172 = .ok (.iconst 3, 1) := by decide +kernel
theorem d1_173 : decode method_5_code 173 = .ok (.caload, 1) := by decide +kernel
theorem d1_174 : decode method_5_code 174 = .ok (.castore, 1) := by decide +kernel
theorem d1_175 : decode method_5_code 175 = .ok (.dup, 1) := by decide +kernel
theorem d1_176 : decode method_5_code 176 = .ok (.iconst 4, 1) := by decide +kernel
theorem d1_177 : decode method_5_code 177 = .ok (.aload_n 0, 1) := by decide +kernel
theorem d1_178 : decode method_5_code 178 = .ok (.iconst 4, 1) := by decide +kernel
theorem d1_179 : decode method_5_code 179 = .ok (.caload, 1) := by decide +kernel
theorem d1_180 : decode method_5_code 180 = .ok (.castore, 1) := by decide +kernel
theorem d1_181 : decode method_5_code 181 = .ok (.invokespecial 49, 3) := by decide +kernel
theorem d1_184 : decode method_5_code 184 = .ok (.areturn, 1) := by decide +kernel
theorem d1_185 : decode method_5_code 185 = .ok (.iload_n 1, 1) := by decide +kernel
theorem d1_186 : decode method_5_code 186 = .ok (.bipush 6, 2) := by decide +kernel
theorem d1_188 : decode method_5_code 188 = .ok (.if_icmp .ne 51, 3) := by decide +kernel
theorem d1_191 : decode method_5_code 191 = .ok (.new 25, 3) := by decide +kernel
theorem d1_194 : decode method_5_code 194 = .ok (.dup, 1) := by decide +kernel
theorem d1_195 : decode method_5_code 195 = .ok (.bipush 6, 2) := by decide +kernel
theorem d1_197 : decode method_5_code 197 = .ok (.newarray .char, 2) := by decide +kernel
theorem d1_199 : decode method_5_code 199 = .ok (.dup, 1) := by decide +kernel
theorem d1_200 : decode method_5_code 200 = .ok (.iconst 0, 1) := by decide +kernel
theorem d1_201 : decode method_5_code 201 = .ok (.aload_n 0, 1) := by decide +kernel
theorem d1_202 : decode method_5_code 202 = .ok (.iconst 0, 1) := by decide +kernel
theorem d1_203 : decode method_5_code 203 = .ok (.caload, 1) := by decide +kernel
theorem d1_204 : decode method_5_code 204 = .ok (.castore, 1) := by decide +kernel
theorem d1_205 : decode method_5_code 205 = .ok (.dup, 1) := by decide +kernel
theorem d1_206 : decode method_5_code 206 = .ok (.iconst 1, 1) := by decide +kernel
theorem d1_207 : decode method_5_code 207 = .ok (.aload_n 0, 1) := by decide +kernel
theorem d1_208 : decode method_5_code 208 = .ok (.iconst 1, 1) := by decide +kernel
theorem d1_209 : decode method_5_code 209 = .ok (.caload, 1) := by decide +kernel
theorem d1_210 : decode method_5_code 210 = .ok (.castore, 1) := by decide +kernel
theorem d1_211 : decode method_5_code 211 = .ok (.dup, 1) := by decide +kernel
theorem d1_212 : decode method_5_code 212 = .ok (.iconst 2, 1) := by decide +kernel
theorem d1_213 : decode method_5_code 213 = .ok (.aload_n 0, 1) := by decide +kernel
theorem d1_214 : decode method_5_code 214 = .ok (.iconst 2, 1) := by decide +kernel
theorem d1_215 : decode method_5_code 215 = .ok (.caload, 1) := by decide +kernel
theorem d1_216 : decode method_5_code 216 = .ok (.castore, 1) := by decide +kernel
theorem d1_217 : decode method_5_code 217 = .ok (.dup, 1) := by decide +kernel
theorem d1_218 : decode method_5_code 218 = .ok (.iconst 3, 1) := by decide +kernel
theorem d1_219 : decode method_5_code 219 = .ok (.aload_n 0, 1) := by decide +kernel
theorem d1_220 : decode method_5_code 220 = .ok (.iconst 3, 1) := by decide +kernel
theorem d1_221 : decode method_5_code 221 = .ok (.caload, 1) := by decide +kernel
theorem d1_222 : decode method_5_code 222 = .ok (.castore, 1) := by decide +kernel
theorem d1_223 : decode method_5_code 223 = .ok (.dup, 1) := by decide +kernel
theorem d1_224 : decode method_5_code 224 = .ok (.iconst 4, 1) := by decide +kernel
theorem d1_225 : decode method_5_code 225 = .ok (.aload_n 0, 1) := by decide +kernel
theorem d1_226 : decode method_5_code 226 = .ok (.iconst 4, 1) := by decide +kernel
theorem d1_227 : decode method_5_code 227 = .ok (.caload, 1) := by decide +kernel
theorem d1_228 : decode method_5_code 228 = .ok (.castore, 1) := by decide +kernel
theorem d1_229 : decode method_5_code 229 = .ok (.dup, 1) := by decide +kernel
theorem d1_230 : decode method_5_code 230 = .ok (.iconst 5, 1) := by decide +kernel
theorem d1_231 : decode method_5_code 231 = .ok (.aload_n 0, 1) := by decide +kernel
theorem d1_232 : decode method_5_code 232 = .ok (.iconst 5, 1) := by decide +kernel
theorem d1_233 : decode method_5_code 233 = .ok (.caload, 1) := by decide +kernel
theorem d1_234 : decode method_5_code 234 = .ok (.castore, 1) := by decide +kernel
theorem d1_235 : decode method_5_code 235 = .ok (.invokespecial 49, 3) := by decide +kernel
theorem d1_238 : decode method_5_code 238 = .ok (.areturn, 1) := by decide +kernel
theorem d1_239 : decode method_5_code 239 = .ok (.iload_n 1, 1) := by decide +kernel
theorem d1_240 : decode method_5_code 240 = .ok (.bipush 7, 2) := by decide +kernel
theorem d1_242 : decode method_5_code 242 = .ok (.if_icmp .ne 59, 3) := by decide +kernel
theorem d1_245 : decode method_5_code 245 = .ok (.new 25, 3) := by decide +kernel
theorem d1_248 : decode method_5_code 248 = .ok (.dup, 1) := by decide +kernel
theorem d1_249 : decode method_5_code 249 = .ok (.bipush 7, 2) := by decide +kernel
theorem d1_251 : decode method_5_code 251 = .ok (.newarray .char, 2) := by decide +kernel
theorem d1_253 : decode method_5_code 253 = .ok (.dup, 1) := by decide +kernel
theorem d1_254 : decode method_5_code 254 = .ok (.iconst 0, 1) := by decide +kernel
theorem d1_255 : decode method_5_code 255 = .ok (.aload_n 0, 1) := by decide +kernel
theorem d1_256 : decode method_5_code 256 = .ok (.iconst 0, 1) := by decide +kernel
theorem d1_257 : decode method_5_code 257 = .ok (.caload, 1) := by decide +kernel
theorem d1_258 : decode method_5_code 258 = .ok (.castore, 1) := by decide +kernel
theorem d1_259 : decode method_5_code 259 = .ok (.dup, 1) := by decide +kernel
theorem d1_260 : decode method_5_code 260 = .ok (.iconst 1, 1) := by decide +kernel
theorem d1_261 : decode method_5_code 261 = .ok (.aload_n 0, 1) := by decide +kernel
theorem d1_262 : decode method_5_code 262 = .ok (.iconst 1, 1) := by decide +kernel
theorem d1_263 : decode method_5_code 263 = .ok (.caload, 1) := by decide +kernel
theorem d1_264 : decode method_5_code 264 = .ok (.castore, 1) := by decide +kernel
theorem d1_265 : decode method_5_code 265 = .ok (.dup, 1) := by decide +kernel
theorem d1_266 : decode method_5_code 266 = .ok (.iconst 2, 1) := by decide +kernel
theorem d1_267 : decode method_5_code 267 = .ok (.aload_n 0, 1) := by decide +kernel
theorem d1_268 : decode method_5_code 268 = .ok (.iconst 2, 1) := by decide +kernel
theorem d1_269 : decode method_5_code 269 = .ok (.caload, 1) := by decide +kernel
theorem d1_270 : decode method_5_code 270 = .ok (.castore, 1) := by decide +kernel
theorem d1_271 : decode method_5_code 271 = .ok (.dup, 1) := by decide +kernel
theorem d1_272 : decode method_5_code 272 = .ok (.iconst 3, 1) := by decide +kernel
theorem d1_273 : decode method_5_code 273 = .ok (.aload_n 0, 1) := by decide +kernel
theorem d1_274 : decode method_5_code 274 = .ok (.iconst 3, 1) := by decide +kernel
theorem d1_275 : decode method_5_code 275 = .ok (.caload, 1) := by decide +kernel
theorem d1_276 : decode method_5_code 276 = .ok (.castore, 1) := by decide +kernel
theorem d1_277 : decode method_5_code 277 = .ok (.dup, 1) := by decide +kernel
theorem d1_278 : decode method_5_code 278 = .ok (.iconst 4, 1) := by decide +kernel
theorem d1_279 : decode method_5_code 279 = .ok (.aload_n 0, 1) := by decide +kernel
theorem d1_280 : decode method_5_code 280 = .ok (.iconst 4, 1) := by decide +kernel
theorem d1_281 : decode method_5_code 281 = .ok (.caload, 1) := by decide +kernel
theorem d1_282 : decode method_5_code 282 = .ok (.castore, 1) := by decide +kernel
theorem d1_283 : decode method_5_code 283 = .ok (.dup, 1) := by decide +kernel
theorem d1_284 : decode method_5_code 284 = .ok (.iconst 5, 1) := by decide +kernel
theorem d1_285 : decode method_5_code 285 = .ok (.aload_n 0, 1) := by decide +kernel
theorem d1_286 : decode method_5_code 286 = .ok (.iconst 5, 1) := by decide +kernel
theorem d1_287 : decode method_5_code 287 = .ok (.caload, 1) := by decide +kernel
theorem d1_288 : decode method_5_code 288 = .ok (.castore, 1) := by decide +kernel
theorem d1_289 : decode method_5_code 289 = .ok (.dup, 1) := by decide +kernel
theorem d1_290 : decode method_5_code 290 = .ok (.bipush 6, 2) := by decide +kernel
theorem d1_292 : decode method_5_code 292 = .ok (.aload_n 0, 1) := by decide +kernel
theorem d1_293 : decode method_5_code 293 = .ok (.bipush 6, 2) := by decide +kernel
theorem d1_295 : decode method_5_code 295 = .ok (.caload, 1) := by decide +kernel
theorem d1_296 : decode method_5_code 296 = .ok (.castore, 1) := by decide +kernel
theorem d1_297 : decode method_5_code 297 = .ok (.invokespecial 49, 3) := by decide +kernel
theorem d1_300 : decode method_5_code 300 = .ok (.areturn, 1) := by decide +kernel
theorem d1_301 : decode method_5_code 301 = .ok (.iload_n 1, 1) := by decide +kernel
theorem d1_302 : decode method_5_code 302 = .ok (.bipush 8, 2) := by decide +kernel
theorem d1_304 : decode method_5_code 304 = .ok (.if_icmp .ne 67, 3) := by decide +kernel
theorem d1_307 : decode method_5_code 307 = .ok (.new 25, 3) := by decide +kernel
theorem d1_310 : decode method_5_code 310 = .ok (.dup, 1) := by decide +kernel
theorem d1_311 : decode method_5_code 311 = .ok (.bipush 8, 2) := by decide +kernel
theorem d1_313 : decode method_5_code 313 = .ok (.newarray .char, 2) := by decide +kernel
theorem d1_315 : decode method_5_code 315 = .ok (.dup, 1) := by decide +kernel
theorem d1_316 : decode method_5_code 316 = .ok (.iconst 0, 1) := by decide +kernel
theorem d1_317 : decode method_5_code 317 = .ok (.aload_n 0, 1) := by decide +kernel
theorem d1_318 : decode method_5_code 318 = .ok (.iconst 0, 1) := by decide +kernel
theorem d1_319 : decode method_5_code 319 = .ok (.caload, 1) := by decide +kernel
theorem d1_320 : decode method_5_code 320 = .ok (.castore, 1) := by decide +kernel
theorem d1_321 : decode method_5_code 321 = .ok (.dup, 1) := by decide +kernel
theorem d1_322 : decode method_5_code 322 = .ok (.iconst 1, 1) := by decide +kernel
theorem d1_323 : decode method_5_code 323 = .ok (.aload_n 0, 1) := by decide +kernel
theorem d1_324 : decode method_5_code 324 = .ok (.iconst 1, 1) := by decide +kernel
theorem d1_325 : decode method_5_code 325 = .ok (.caload, 1) := by decide +kernel
theorem d1_326 : decode method_5_code 326 = .ok (.castore, 1) := by decide +kernel
theorem d1_327 : decode method_5_code 327 = .ok (.dup, 1) := by decide +kernel
theorem d1_328 : decode method_5_code 328 = .ok (.iconst 2, 1) := by decide +kernel
theorem d1_329 : decode method_5_code 329 = .ok (.aload_n 0, 1) := by decide +kernel
theorem d1_330 : decode method_5_code 330 = .ok (.iconst 2, 1) := by decide +kernel
theorem d1_331 : decode method_5_code 331 = .ok (.caload, 1) := by decide +kernel
theorem d1_332 : decode method_5_code 332 = .ok (.castore, 1) := by decide +kernel
theorem d1_333 : decode method_5_code 333 = .ok (.dup, 1) := by decide +kernel
theorem d1_334 : decode method_5_code 334 = .ok (.iconst 3, 1) := by decide +kernel
theorem d1_335 : decode method_5_code 335 = .ok (.aload_n 0, 1) := by decide +kernel
theorem d1_336 : decode method_5_code 336 = .ok (.iconst 3, 1) := by decide +kernel
theorem d1_337 : decode method_5_code 337 = .ok (.caload, 1) := by decide +kernel
theorem d1_338 : decode method_5_code 338 = .ok (.castore, 1) := by decide +kernel
theorem d1_339 : decode method_5_code 339 = .ok (.dup, 1) := by decide +kernel
theorem d1_340 : decode method_5_code 340 = .ok (.iconst 4, 1) := by decide +kernel
theorem d1_341 : decode method_5_code 341 = .ok (.aload_n 0, 1) := by decide +kernel
theorem d1_342 : decode method_5_code 342 = .ok (.iconst 4, 1) := by decide +kernel
theorem d1_343 : decode method_5_code 343 = .ok (.caload, 1) := by decide +kernel
theorem d1_344 : decode method_5_code 344 = .ok (.castore, 1) := by decide +kernel
theorem d1_345 : decode method_5_code 345 = .ok (.dup, 1) := by decide +kernel
theorem d1_346 : decode method_5_code 346 = .ok (.iconst 5, 1) := by decide +kernel
theorem d1_347 : decode method_5_code 347 = .ok (.aload_n 0, 1) := by decide +kernel
theorem d1_348 : decode method_5_code 348 = .ok (.iconst 5, 1) := by decide +kernel
theorem d1_349 : decode method_5_code 349 = .ok (.caload, 1) := by decide +kernel
theorem d1_350 : decode method_5_code 350 = .ok (.castore, 1) := by decide +kernel
theorem d1_351 : decode method_5_code 351 = .ok (.dup, 1) := by decide +kernel
theorem d1_352 : decode method_5_code 352 = .ok (.bipush 6, 2) := by decide +kernel
theorem d1_354 : decode method_5_code 354 = .ok (.aload_n 0, 1) := by decide +kernel
theorem d1_355 : decode method_5_code 355 = .ok (.bipush 6, 2) := by decide +kernel
theorem d1_357 : decode method_5_code 357 = .ok (.caload, 1) := by decide +kernel
theorem d1_358 : decode method_5_code 358 = .ok (.castore, 1) := by decide +kernel
theorem d1_359 : decode method_5_code 359 = .ok (.dup, 1) := by decide +kernel
theorem d1_360 : decode method_5_code 360 = .ok (.bipush 7, 2) := by decide +kernel
theorem d1_362 : decode method_5_code 362 = .ok (.aload_n 0, 1) := by decide +kernel
theorem d1_363 : decode method_5_code 363 = .ok (.bipush 7, 2) := by decide +kernel
theorem d1_365 : decode method_5_code 365 = .ok (.caload, 1) := by decide +kernel
theorem d1_366 : decode method_5_code 366 = .ok (.castore, 1) := by decide +kernel
theorem d1_367 : decode method_5_code 367 = .ok (.invokespecial 49, 3) := by decide +kernel
theorem d1_370 : decode method_5_code 370 = .ok (.areturn, 1) := by decide +kernel
theorem d1_371 : decode method_5_code 371 = .ok (.iload_n 1, 1) := by decide +kernel
theorem d1_372 : decode method_5_code 372 = .ok (.bipush 9, 2) := by decide +kernel
theorem d1_374 : decode method_5_code 374 = .ok (.if_icmp .ne 75, 3) := by decide +kernel
theorem d1_377 : decode method_5_code 377 = .ok (.new 25, 3) := by decide +kernel
theorem d1_380 : decode method_5_code 380 = .ok (.dup, 1) := by decide +kernel
theorem d1_381 : decode method_5_code 381 = .ok (.bipush 9, 2) := by decide +kernel
theorem d1_383 : decode method_5_code 383 = .ok (.newarray .char, 2) := by decide +kernel
theorem d1_385 : decode method_5_code 385 = .ok (.dup, 1) := by decide +kernel
theorem d1_386 : decode method_5_code 386 = .ok (.iconst 0, 1) := by decide +kernel
theorem d1_387 : decode method_5_code 387 = .ok (.aload_n 0, 1) := by decide +kernel
theorem d1_388 : decode method_5_code 388 = .ok (.iconst 0, 1) := by decide +kernel
theorem d1_389 : decode method_5_code 389 = .ok (.caload, 1) := by decide +kernel
theorem d1_390 : decode method_5_code 390 = .ok (.castore, 1) := by decide +kernel
theorem d1_391 : decode method_5_code 391 = .ok (.dup, 1) := by decide +kernel
theorem d1_392 : decode method_5_code 392 = .ok (.iconst 1, 1) := by decide +kernel
theorem d1_393 : decode method_5_code 393 = .ok (.aload_n 0, 1) := by decide +kernel
theorem d1_394 : decode method_5_code 394 = .ok (.iconst 1, 1) := by decide +kernel
theorem d1_395 : decode method_5_code 395 = .ok (.caload, 1) := by decide +kernel
theorem d1_396 : decode method_5_code 396 = .ok (.castore, 1) := by decide +kernel
theorem d1_397 : decode method_5_code 397 = .ok (.dup, 1) := by decide +kernel
theorem d1_398 : decode method_5_code 398 = .ok (.iconst 2, 1) := by decide +kernel
theorem d1_399 : decode method_5_code 399 = .ok (.aload_n 0, 1) := by decide +kernel
theorem d1_400 : decode method_5_code 400 = .ok (.iconst 2, 1) := by decide +kernel
theorem d1_401 : decode method_5_code 401 = .ok (.caload, 1) := by decide +kernel
theorem d1_402 : decode method_5_code 402 = .ok (.castore, 1) := by decide +kernel
theorem d1_403 : decode method_5_code 403 = .ok (.dup, 1) := by decide +kernel
theorem d1_404 : decode method_5_code 404 = .ok (.iconst 3, 1) := by decide +kernel
theorem d1_405 : decode method_5_code 405 = .ok (.aload_n 0, 1) := by decide +kernel
theorem d1_406 : decode method_5_code 406 = .ok (.iconst 3, 1) := by decide +kernel
theorem d1_407 : decode method_5_code 407 = .ok (.caload, 1) := by decide +kernel
theorem d1_408 : decode method_5_code 408 = .ok (.castore, 1) := by decide +kernel
theorem d1_409 : decode method_5_code 409 = .ok (.dup, 1) := by decide +kernel
theorem d1_410 : decode method_5_code 410 = .ok (.iconst 4, 1) := by decide +kernel
theorem d1_411 : decode method_5_code 411 = .ok (.aload_n 0, 1) := by decide +kernel
theorem d1_412 : decode method_5_code 412 = .ok (.iconst 4, 1) := by decide +kernel
theorem d1_413 : decode method_5_code 413 = .ok (.caload, 1) := by decide +kernel
theorem d1_414 : decode method_5_code 414 = .ok (.castore, 1) := by decide +kernel
theorem d1_415 : decode method_5_code 415 = .ok (.dup, 1) := by decide +kernel
theorem d1_416 : decode method_5_code 416 = .ok (.iconst 5, 1) := by decide +kernel
theorem d1_417 : decode method_5_code 417 = .ok (.aload_n 0, 1) := by decide +kernel
theorem d1_418 : decode method_5_code 418 = .ok (.iconst 5, 1) := by decide +kernel
theorem d1_419 : decode method_5_code 419 = .ok (.caload, 1) := by decide +kernel
theorem d1_420 : decode method_5_code 420 = .ok (.castore, 1) := by decide +kernel
theorem d1_421 : decode method_5_code 421 = .ok (.dup, 1) := by decide +kernel
theorem d1_422 : decode method_5_code 422 = .ok (.bipush 6, 2) := by decide +kernel
theorem d1_424 : decode method_5_code 424 = .ok (.aload_n 0, 1) := by decide +kernel
theorem d1_425 : decode method_5_code 425 = .ok (.bipush 6, 2) := by decide +kernel
theorem d1_427 : decode method_5_code 427 = .ok (.caload, 1) := by decide +kernel
theorem d1_428 : decode method_5_code 428 = .ok (.castore, 1) := by decide +kernel
theorem d1_429 : decode method_5_code 429 = .ok (.dup, 1) := by decide +kernel
theorem d1_430 : decode method_5_code 430 = .ok (.bipush 7, 2) := by decide +kernel
theorem d1_432 : decode method_5_code 432 = .ok (.aload_n 0, 1) := by decide +kernel
theorem d1_433 : decode method_5_code 433 = .ok (.bipush 7, 2) := by decide +kernel
theorem d1_435 : decode method_5_code 435 = .ok (.caload, 1) := by decide +kernel
theorem d1_436 : decode method_5_code 436 = .ok (.castore, 1) := by decide +kernel
theorem d1_437 : decode method_5_code 437 = .ok (.dup, 1) := by decide +kernel
theorem d1_438 : decode method_5_code 438 = .ok (.bipush 8, 2) := by decide +kernel
theorem d1_440 : decode method_5_code 440 = .ok (.aload_n 0, 1) := by decide +kernel
theorem d1_441 : decode method_5_code 441 = .ok (.bipush 8, 2) := by decide +kernel
theorem d1_443 : decode method_5_code 443 = .ok (.caload, 1) := by decide +kernel
theorem d1_444 : decode method_5_code 444 = .ok (.castore, 1) := by decide +kernel
theorem d1_445 : decode method_5_code 445 = .ok (.invokespecial 49, 3) := by decide +kernel
theorem d1_448 : decode method_5_code 448 = .ok (.areturn, 1) := by decide +kernel
theorem d1_449 : decode method_5_code 449 = .ok (.new 25, 3) := by decide +kernel
theorem d1_452 : decode method_5_code 452 = .ok (.dup, 1) := by decide +kernel
theorem d1_453 : decode method_5_code 453 = .ok (.bipush 10, 2) := by decide +kernel
theorem d1_455 : decode method_5_code 455 = .ok (.newarray .char, 2) := by decide +kernel
theorem d1_457 : decode method_5_code 457 = .ok (.dup, 1) := by decide +kernel
theorem d1_458 : decode method_5_code 458 = .ok (.iconst 0, 1) := by decide +kernel
theorem d1_459 : decode method_5_code 459 = .ok (.aload_n 0, 1) := by decide +kernel
theorem d1_460 : decode method_5_code 460 = .ok (.iconst 0, 1) := by decide +kernel
theorem d1_461 : decode method_5_code 461 = .ok (.caload, 1) := by decide +kernel
theorem d1_462 : decode method_5_code 462 = .ok (.castore, 1) := by decide +kernel
theorem d1_463 : decode method_5_code 463 = .ok (.dup, 1) := by decide +kernel
theorem d1_464 : decode method_5_code 464 = .ok (.iconst 1, 1) := by decide +kernel
theorem d1_465 : decode method_5_code 465 = .ok (.aload_n 0, 1) := by decide +kernel
theorem d1_466 : decode method_5_code 466 = .ok (.iconst 1, 1) := by decide +kernel
theorem d1_467 : decode method_5_code 467 = .ok (.caload, 1) := by decide +kernel
theorem d1_468 : decode method_5_code 468 = .ok (.castore, 1) := by decide +kernel
theorem d1_469 : decode method_5_code 469 = .ok (.dup, 1) := by decide +kernel
theorem d1_470 : decode method_5_code 470 = .ok (.iconst 2, 1) := by decide +kernel
theorem d1_471 : decode method_5_code 471 = .ok (.aload_n 0, 1) := by decide +kernel
theorem d1_472 : decode method_5_code 472 = .ok (.iconst 2, 1) := by decide +kernel
theorem d1_473 : decode method_5_code 473 = .ok (.caload, 1) := by decide +kernel
theorem d1_474 : decode method_5_code 474 = .ok (.castore, 1) := by decide +kernel
theorem d1_475 : decode method_5_code 475 = .ok (.dup, 1) := by decide +kernel
theorem d1_476 : decode method_5_code 476 = .ok (.iconst 3, 1) := by decide +kernel
theorem d1_477 : decode method_5_code 477 = .ok (.aload_n 0, 1) := by decide +kernel
theorem d1_478 : decode method_5_code 478 = .ok (.iconst 3, 1) := by decide +kernel
theorem d1_479 : decode method_5_code 479 = .ok (.caload, 1) := by decide +kernel
theorem d1_480 : decode method_5_code 480 = .ok (.castore, 1) := by decide +kernel
theorem d1_481 : decode method_5_code 481 = .ok (.dup, 1) := by decide +kernel
theorem d1_482 : decode method_5_code 482 = .ok (.iconst 4, 1) := by decide +kernel
theorem d1_483 : decode method_5_code 483 = .ok (.aload_n 0, 1) := by decide +kernel
theorem d1_484 : decode method_5_code 484 = .ok (.iconst 4, 1) := by decide +kernel
theorem d1_485 : decode method_5_code 485 = .ok (.caload, 1) := by decide +kernel
theorem d1_486 : decode method_5_code 486 = .ok (.castore, 1) := by decide +kernel
theorem d1_487 : decode method_5_code 487 = .ok (.dup, 1) := by decide +kernel
theorem d1_488 : decode method_5_code 488 = .ok (.iconst 5, 1) := by decide +kernel
theorem d1_489 : decode method_5_code 489 = .ok (.aload_n 0, 1) := by decide +kernel
theorem d1_490 : decode method_5_code 490 = .ok (.iconst 5, 1) := by decide +kernel
theorem d1_491 : decode method_5_code 491 = .ok (.caload, 1) := by decide +kernel
theorem d1_492 : decode method_5_code 492 = .ok (.castore, 1) := by decide +kernel
theorem d1_493 : decode method_5_code 493 = .ok (.dup, 1) := by decide +kernel
theorem d1_494 : decode method_5_code 494 = .ok (.bipush 6, 2) := by decide +kernel
theorem d1_496 : decode method_5_code 496 = .ok (.aload_n 0, 1) := by decide +kernel
theorem d1_497 : decode method_5_code 497 = .ok (.bipush 6, 2) := by decide +kernel
theorem d1_499 : decode method_5_code 499 = .ok (.caload, 1) := by decide +kernel
theorem d1_500 : decode method_5_code 500 = .ok (.castore, 1) := by decide +kernel
theorem d1_501 : decode method_5_code 501 = .ok (.dup, 1) := by decide +kernel
theorem d1_502 : decode method_5_code 502 = .ok (.bipush 7, 2) := by decide +kernel
theorem d1_504 : decode method_5_code 504 = .ok (.aload_n 0, 1) := by decide +kernel
theorem d1_505 : decode method_5_code 505 = .ok (.bipush 7, 2) := by decide +kernel
theorem d1_507 : decode method_5_code 507 = .ok (.caload, 1) := by decide +kernel
theorem d1_508 : decode method_5_code 508 = .ok (.castore, 1) := by decide +kernel
theorem d1_509 : decode method_5_code 509 = .ok (.dup, 1) := by decide +kernel
theorem d1_510 : decode method_5_code 510 = .ok (.bipush 8, 2) := by decide +kernel
theorem d1_512 : decode method_5_code 512 = .ok (.aload_n 0, 1) := by decide +kernel
theorem d1_513 : decode method_5_code 513 = .ok (.bipush 8, 2) := by decide +kernel
theorem d1_515 : decode method_5_code 515 = .ok (.caload, 1) := by decide +kernel
theorem d1_516 : decode method_5_code 516 = .ok (.castore, 1) := by decide +kernel
theorem d1_517 : decode method_5_code 517 = .ok (.dup, 1) := by decide +kernel
theorem d1_518 : decode method_5_code 518 = .ok (.bipush 9, 2) := by decide +kernel
theorem d1_520 : decode method_5_code 520 = .ok (.aload_n 0, 1) := by decide +kernel
theorem d1_521 : decode method_5_code 521 = .ok (.bipush 9, 2) := by decide +kernel
theorem d1_523 : decode method_5_code 523 = .ok (.caload, 1) := by decide +kernel
theorem d1_524 : decode method_5_code 524 = .ok (.castore, 1) := by decide +kernel
theorem d1_525 : decode method_5_code 525 = .ok (.invokespecial 49, 3) := by decide +kernel
theorem d1_528 : decode method_5_code 528 = .ok (.areturn, 1) := by decide +kernel
theorem d1_4 : decode method_5_code 4 = .ok (.new 25, 3) := by decide +kernel
theorem d1_7 : decode method_5_code 7 = .ok (.dup, 1) := by decide +kernel
theorem d1_8 : decode method_5_code 8 = .ok (.iconst 0, 1) := by decide +kernel
theorem d1_9 : decode method_5_code 9 = .ok (.newarray .char, 2) := by decide +kernel
theorem d1_11 : decode method_5_code 11 = .ok (.invokespecial 49, 3) := by decide +kernel
theorem d1_14 : decode method_5_code 14 = .ok (.areturn, 1) := by decide +kernel
def rr_str : Room := { frames := 6, cells := 6, slots := 44, locals := 88 }
set_option maxRecDepth 65536 in
set_option maxHeartbeats 40000000 in
theorem rm_str (l : Launch) (Z : State) (a0 : Array Value) (hw : ∀ d ∈ tables_1, d.before a0 Z = true) (ws : List Jvm.Cond) (b : Addr) (kC : ClassId) (cs : List Int32) (n zc : Int32) (h0 : Heap) (n0 : Nat) (Z0 : n0 ≤ h0.size) (O0 : Old Z n0 h0) (VC : Arv Z h0 b kC .char (10 : Int32) (cs.map Value.int) (.int (0 : Int32))) (hcs : cs.length = 10) (hr : ∀ c ∈ cs, 0 ≤ c.toInt ∧ c.toInt < 65536) (CS : Sta Z Z.heap "java/lang/String" "COMPACT_STRINGS" "Z" (.int zc)) (hz : ¬ zc = 0) (UA : Sta Z Z.heap "java/lang/StringUTF16" "$assertionsDisabled" "Z" (.int (1 : Int32))) (UH : Sta Z Z.heap "java/lang/StringUTF16" "HI_BYTE_SHIFT" "I" (.int (0 : Int32))) (UL : Sta Z Z.heap "java/lang/StringUTF16" "LO_BYTE_SHIFT" "I" (.int (8 : Int32))) :
    ConS l Z EL0 (⟨"com/example/tierbook/tierbook/cli/FlagNamedPinLaw", "str", "([CI)Ljava/lang/String;"⟩ : MethodName) method_5_code 2 (some (.object "java/lang/String")) ws rr_str #[(.ref b), (.int n)] h0 [] (fun v h L => ∃ (a : Addr) (ds : List Int32), v = some (.ref a) ∧ Fr n0 L ∧ Ext h0 h ∧ h0.size ≤ a ∧ ds.length ≤ 10 ∧ (∀ c ∈ ds, 0 ≤ c.toInt ∧ c.toInt < 65536) ∧ StrC Z h a ds.length ds) := by
  refine ConS.enter (plainFor_of_name pn24) ?_
  intro p e s m below meth c s₁ X0 hx hZ hby hml hret hlk hown hnm e0 hS hA hsf
  have N0 := Fr.nil n0
  have hEL := hEL0 hw
  have hSt := hSt0 hw
  refine Go.cast (g' := (mkF m 0 #[.val (.ref b), .val (.int n)] [])) (by first | rfl | (simp [entryFrame, mkF, argsToLocals, Value.category]; done)) ?_
  refine Go.st (T' := s₁) (g' := (mkF m 1 #[.val (.ref b), .val (.int n)] [(.int n)])) (fun _ zk => XS.iloadN X0.here hx rfl (hb hby d1_0) rfl zk) ?_
  by_cases hc1 : (0 : Int32) < n
  · refine Go.st (T' := s₁) (g' := (mkF m 15 #[.val (.ref b), .val (.int n)] [])) (fun _ zk => XS.ifYes X0.here hx rfl (pc0 := 1) (pc' := 15) rfl (hb hby d1_1) rfl ((if0 _ _).trans (tlt hc1).2.2.1) (by decide) (by decide) zk) ?_
    refine Go.st (T' := s₁) (g' := (mkF m 16 #[.val (.ref b), .val (.int n)] [(.int n)])) (fun _ zk => XS.iloadN X0.here hx rfl (hb hby d1_15) rfl zk) ?_
    refine Go.st (T' := s₁) (g' := (mkF m 17 #[.val (.ref b), .val (.int n)] [(.int (1 : Int32)), (.int n)])) (fun _ zk => XS.iconst X0.here hx rfl (hb hby d1_16) zk) ?_
    by_cases hc17 : n = (1 : Int32)
    · refine Go.st (T' := s₁) (g' := (mkF m 20 #[.val (.ref b), .val (.int n)] [])) (fun _ zk => XS.icmpNo X0.here hx rfl (hb hby d1_17) rfl (teq hc17).2 zk) ?_
      obtain ⟨T1, h1, X1, e1, E1, A1, D1, -, st1⟩ := newO X0 hx hZ hown (w7 hw) (w8 hw) (w9 hw) e0 (g := (mkF m 20 #[.val (.ref b), .val (.int n)] [])) rfl (hb hby d1_20) (by decide) (by decide)
      obtain ⟨b1, g1⟩ : ∃ z, z = h0.size := ⟨_, rfl⟩
      rw [← g1] at A1 D1 st1
      have F1_value : Fld Z h1 b1 "java/lang/String" "value" "[B" .null := D1 (Or.inr (w22 hw)) (ty := (.array .byte)) (by decide)
      have F1_coder : Fld Z h1 b1 "java/lang/String" "coder" "B" (.int (0 : Int32)) := D1 (Or.inr (w23 hw)) (ty := .byte) (by decide)
      refine Go.st (T' := T1) (g' := (mkF m 23 #[.val (.ref b), .val (.int n)] [(.ref b1)])) (fun _ zk => st1 _ zk) ?_
      refine Go.st (T' := T1) (g' := (mkF m 24 #[.val (.ref b), .val (.int n)] [(.ref b1), (.ref b1)])) (fun _ zk => XS.dup X1.here hx rfl (hb hby d1_23) rfl rfl zk) ?_
      refine Go.st (T' := T1) (g' := (mkF m 25 #[.val (.ref b), .val (.int n)] [(.int (1 : Int32)), (.ref b1), (.ref b1)])) (fun _ zk => XS.iconst X1.here hx rfl (hb hby d1_24) zk) ?_
      obtain ⟨T2, h2, k2, X2, e2, E2, A2, st2⟩ := newP (aty := .char) X1 hx hZ (w2 hw) e1 (g := (mkF m 25 #[.val (.ref b), .val (.int n)] [(.int (1 : Int32)), (.ref b1), (.ref b1)])) rfl (hb hby d1_25) rfl (by decide) (cap := 1) (by decide) (by decide) (by decide) (by decide)
      obtain ⟨b2, g2⟩ : ∃ z, z = h1.size := ⟨_, rfl⟩
      rw [← g2] at A2 st2
      have V2 : Arv Z h2 b2 k2 .char (1 : Int32) [(.int (0 : Int32))] (.int (0 : Int32)) := (Arv.new A2 (by decide)).pad (pad_rep [] (.int (0 : Int32)) 1)
      refine Go.st (T' := T2) (g' := (mkF m 27 #[.val (.ref b), .val (.int n)] [(.ref b2), (.ref b1), (.ref b1)])) (fun _ zk => st2 _ zk) ?_
      refine Go.st (T' := T2) (g' := (mkF m 28 #[.val (.ref b), .val (.int n)] [(.ref b2), (.ref b2), (.ref b1), (.ref b1)])) (fun _ zk => XS.dup X2.here hx rfl (hb hby d1_27) rfl rfl zk) ?_
      refine Go.st (T' := T2) (g' := (mkF m 29 #[.val (.ref b), .val (.int n)] [(.int (0 : Int32)), (.ref b2), (.ref b2), (.ref b1), (.ref b1)])) (fun _ zk => XS.iconst X2.here hx rfl (hb hby d1_28) zk) ?_
      refine Go.st (T' := T2) (g' := (mkF m 30 #[.val (.ref b), .val (.int n)] [(.ref b), (.int (0 : Int32)), (.ref b2), (.ref b2), (.ref b1), (.ref b1)])) (fun _ zk => XS.aloadN X2.here hx rfl (hb hby d1_29) rfl rfl zk) ?_
      refine Go.st (T' := T2) (g' := (mkF m 31 #[.val (.ref b), .val (.int n)] [(.int (0 : Int32)), (.ref b), (.int (0 : Int32)), (.ref b2), (.ref b2), (.ref b1), (.ref b1)])) (fun _ zk => XS.iconst X2.here hx rfl (hb hby d1_30) zk) ?_
      have xt3 : Ext h0 h2 := (E1.tr E2)
      have f4 := VC.ext xt3
      refine Go.st (T' := T2) (g' := (mkF m 32 #[.val (.ref b), .val (.int n)] [(.int (cs.getD 0 0)), (.int (0 : Int32)), (.ref b2), (.ref b2), (.ref b1), (.ref b1)])) (fun _ zk => ldCV X2 hx hZ e2 f4 (j := (0 : Int32)) ⟨by decide, by decide⟩ (v := (.int (cs.getD 0 0))) (own_getD cs 0) (g := (mkF m 31 #[.val (.ref b), .val (.int n)] [(.int (0 : Int32)), (.ref b), (.int (0 : Int32)), (.ref b2), (.ref b2), (.ref b1), (.ref b1)])) rfl (rest := [(.int (0 : Int32)), (.ref b2), (.ref b2), (.ref b1), (.ref b1)]) rfl (hb hby d1_31) zk) ?_
      obtain ⟨T5, h5, X5, e5, W5, V5, st5⟩ := stCV X2 hx hZ e2 V2 (j := (0 : Int32)) (i := 0) (by decide) rfl (Nat.le_of_ble_eq_true rfl) (g := (mkF m 32 #[.val (.ref b), .val (.int n)] [(.int (cs.getD 0 0)), (.int (0 : Int32)), (.ref b2), (.ref b2), (.ref b1), (.ref b1)])) rfl rfl (hb hby d1_32)
      rw [nar_cid (x := cs.getD 0 0) (own_rg hr hcs (by decide))] at V5
      have V5' : Arv Z h5 b2 k2 .char (1 : Int32) [(.int (cs.getD 0 0))] (.int (0 : Int32)) := V5
      have N5 := Fr.snoc X5 N0 (Nat.le_trans Z0 (Nat.le_trans E1.1 (Nat.le_of_eq g2.symm)))
      refine Go.st (T' := T5) (g' := (mkF m 33 #[.val (.ref b), .val (.int n)] [(.ref b2), (.ref b1), (.ref b1)])) (fun _ zk => st5 _ zk) ?_
      have hrg : ∀ x ∈ [(cs.getD 0 0)], 0 ≤ x.toInt ∧ x.toInt < 65536 := by
        simp only [List.forall_mem_cons]
        exact ⟨own_rg hr hcs (by decide), fun _ q => nomatch q⟩
      have xt6 : Ext h1 h5 := (E2.thenW W5 (Nat.le_of_eq g2.symm))
      have f7 := A1.ext xt6
      have f8 := F1_coder.ext xt6
      have f9 := F1_value.ext xt6
      have xt11 : Ext h0 h5 := (xt3.thenW W5 (Nat.le_trans E1.1 (Nat.le_of_eq g2.symm)))
      have f12 := O0.ext xt11
      refine Go.callSp (y := (⟨"java/lang/String", "<init>", "([C)V"⟩ : MethodName)) (a := b1) X5 hx hZ hown e5 rfl (w10 hw) (w11 hw) (w9 hw) (w12 hw) (by decide) (argsL := [(.ref b2)]) (rest := [(.ref b1)]) (W := 1) (rm_init1W l Z a0 hw [] b1 b2 k2 [(cs.getD 0 0)] 1 zc h5 n0 (Nat.le_trans Z0 (Nat.le_trans (Nat.le_trans E1.1 E2.1) (Keep.of_wr W5).1)) f12 f7 (Nat.le_trans Z0 (Nat.le_trans (Nat.le_refl _) (Nat.le_of_eq g1.symm))) f8 f9 V5' (by decide) rfl (by decide) (by decide) hrg CS hz UA UH UL) rfl (lenOf pd25 rfl) rfl (by rw [hml]; rfl) rfl (by show 2 * 0 + _ ≤ _; exact Nat.le_of_eq rfl) (by decide) (by decide) (by decide) (by decide) (hb hby d1_33) ?_
      intro v10 T10 h10 L10 X10 e10 q10
      obtain ⟨hv10, Nf10, K10, SC⟩ := q10
      subst hv10
      have N10 := Fr.app N5 Nf10
      show Go p.tables e below _ T10 (mkF m 36 #[.val (.ref b), .val (.int n)] [(.ref b1)])
      have xt13 : Ext h0 h10 := (xt11.thenK K10 (allS (P := fun x => h0.size ≤ x) (Nat.le_of_eq g1.symm) all0))
      have cr14 := chrE hA xt13
      refine Go.retAS X10 hx hlk hS (Nat.le_trans (Nat.zero_le _) (Nat.le_trans (Nat.le_trans (Nat.le_trans E1.1 E2.1) (Keep.of_wr W5).1) K10.1)) cr14 hZ hEL hret rfl rfl (hb hby d1_36) (by decide) (by decide) e10 ?_
      exact ⟨_, [(cs.getD 0 0)], rfl, N10, xt13, (Nat.le_trans (Nat.le_refl _) (Nat.le_of_eq g1.symm)), Nat.le_of_ble_eq_true rfl, hrg, SC⟩
    · refine Go.st (T' := s₁) (g' := (mkF m 37 #[.val (.ref b), .val (.int n)] [])) (fun _ zk => XS.icmpYes X0.here hx rfl (pc0 := 17) (pc' := 37) rfl (hb hby d1_17) rfl (feq hc17).2 (by decide) (by decide) zk) ?_
      refine Go.st (T' := s₁) (g' := (mkF m 38 #[.val (.ref b), .val (.int n)] [(.int n)])) (fun _ zk => XS.iloadN X0.here hx rfl (hb hby d1_37) rfl zk) ?_
      refine Go.st (T' := s₁) (g' := (mkF m 39 #[.val (.ref b), .val (.int n)] [(.int (2 : Int32)), (.int n)])) (fun _ zk => XS.iconst X0.here hx rfl (hb hby d1_38) zk) ?_
      by_cases hc39 : n = (2 : Int32)
      · refine Go.st (T' := s₁) (g' := (mkF m 42 #[.val (.ref b), .val (.int n)] [])) (fun _ zk => XS.icmpNo X0.here hx rfl (hb hby d1_39) rfl (teq hc39).2 zk) ?_
        obtain ⟨T15, h15, X15, e15, E15, A15, D15, -, st15⟩ := newO X0 hx hZ hown (w7 hw) (w8 hw) (w9 hw) e0 (g := (mkF m 42 #[.val (.ref b), .val (.int n)] [])) rfl (hb hby d1_42) (by decide) (by decide)
        obtain ⟨b15, g15⟩ : ∃ z, z = h0.size := ⟨_, rfl⟩
        rw [← g15] at A15 D15 st15
        have F15_value : Fld Z h15 b15 "java/lang/String" "value" "[B" .null := D15 (Or.inr (w22 hw)) (ty := (.array .byte)) (by decide)
        have F15_coder : Fld Z h15 b15 "java/lang/String" "coder" "B" (.int (0 : Int32)) := D15 (Or.inr (w23 hw)) (ty := .byte) (by decide)
        refine Go.st (T' := T15) (g' := (mkF m 45 #[.val (.ref b), .val (.int n)] [(.ref b15)])) (fun _ zk => st15 _ zk) ?_
        refine Go.st (T' := T15) (g' := (mkF m 46 #[.val (.ref b), .val (.int n)] [(.ref b15), (.ref b15)])) (fun _ zk => XS.dup X15.here hx rfl (hb hby d1_45) rfl rfl zk) ?_
        refine Go.st (T' := T15) (g' := (mkF m 47 #[.val (.ref b), .val (.int n)] [(.int (2 : Int32)), (.ref b15), (.ref b15)])) (fun _ zk => XS.iconst X15.here hx rfl (hb hby d1_46) zk) ?_
        obtain ⟨T16, h16, k16, X16, e16, E16, A16, st16⟩ := newP (aty := .char) X15 hx hZ (w2 hw) e15 (g := (mkF m 47 #[.val (.ref b), .val (.int n)] [(.int (2 : Int32)), (.ref b15), (.ref b15)])) rfl (hb hby d1_47) rfl (by decide) (cap := 2) (by decide) (by decide) (by decide) (by decide)
        obtain ⟨b16, g16⟩ : ∃ z, z = h15.size := ⟨_, rfl⟩
        rw [← g16] at A16 st16
        have V16 : Arv Z h16 b16 k16 .char (2 : Int32) [(.int (0 : Int32)), (.int (0 : Int32))] (.int (0 : Int32)) := (Arv.new A16 (by decide)).pad (pad_rep [] (.int (0 : Int32)) 2)
        refine Go.st (T' := T16) (g' := (mkF m 49 #[.val (.ref b), .val (.int n)] [(.ref b16), (.ref b15), (.ref b15)])) (fun _ zk => st16 _ zk) ?_
        refine Go.st (T' := T16) (g' := (mkF m 50 #[.val (.ref b), .val (.int n)] [(.ref b16), (.ref b16), (.ref b15), (.ref b15)])) (fun _ zk => XS.dup X16.here hx rfl (hb hby d1_49) rfl rfl zk) ?_
        refine Go.st (T' := T16) (g' := (mkF m 51 #[.val (.ref b), .val (.int n)] [(.int (0 : Int32)), (.ref b16), (.ref b16), (.ref b15), (.ref b15)])) (fun _ zk => XS.iconst X16.here hx rfl (hb hby d1_50) zk) ?_
        refine Go.st (T' := T16) (g' := (mkF m 52 #[.val (.ref b), .val (.int n)] [(.ref b), (.int (0 : Int32)), (.ref b16), (.ref b16), (.ref b15), (.ref b15)])) (fun _ zk => XS.aloadN X16.here hx rfl (hb hby d1_51) rfl rfl zk) ?_
        refine Go.st (T' := T16) (g' := (mkF m 53 #[.val (.ref b), .val (.int n)] [(.int (0 : Int32)), (.ref b), (.int (0 : Int32)), (.ref b16), (.ref b16), (.ref b15), (.ref b15)])) (fun _ zk => XS.iconst X16.here hx rfl (hb hby d1_52) zk) ?_
        have xt17 : Ext h0 h16 := (E15.tr E16)
        have f18 := VC.ext xt17
        refine Go.st (T' := T16) (g' := (mkF m 54 #[.val (.ref b), .val (.int n)] [(.int (cs.getD 0 0)), (.int (0 : Int32)), (.ref b16), (.ref b16), (.ref b15), (.ref b15)])) (fun _ zk => ldCV X16 hx hZ e16 f18 (j := (0 : Int32)) ⟨by decide, by decide⟩ (v := (.int (cs.getD 0 0))) (own_getD cs 0) (g := (mkF m 53 #[.val (.ref b), .val (.int n)] [(.int (0 : Int32)), (.ref b), (.int (0 : Int32)), (.ref b16), (.ref b16), (.ref b15), (.ref b15)])) rfl (rest := [(.int (0 : Int32)), (.ref b16), (.ref b16), (.ref b15), (.ref b15)]) rfl (hb hby d1_53) zk) ?_
        obtain ⟨T19, h19, X19, e19, W19, V19, st19⟩ := stCV X16 hx hZ e16 V16 (j := (0 : Int32)) (i := 0) (by decide) rfl (Nat.le_of_ble_eq_true rfl) (g := (mkF m 54 #[.val (.ref b), .val (.int n)] [(.int (cs.getD 0 0)), (.int (0 : Int32)), (.ref b16), (.ref b16), (.ref b15), (.ref b15)])) rfl rfl (hb hby d1_54)
        rw [nar_cid (x := cs.getD 0 0) (own_rg hr hcs (by decide))] at V19
        have V19' : Arv Z h19 b16 k16 .char (2 : Int32) [(.int (cs.getD 0 0)), (.int (0 : Int32))] (.int (0 : Int32)) := V19
        have N19 := Fr.snoc X19 N0 (Nat.le_trans Z0 (Nat.le_trans E15.1 (Nat.le_of_eq g16.symm)))
        refine Go.st (T' := T19) (g' := (mkF m 55 #[.val (.ref b), .val (.int n)] [(.ref b16), (.ref b15), (.ref b15)])) (fun _ zk => st19 _ zk) ?_
        refine Go.st (T' := T19) (g' := (mkF m 56 #[.val (.ref b), .val (.int n)] [(.ref b16), (.ref b16), (.ref b15), (.ref b15)])) (fun _ zk => XS.dup X19.here hx rfl (hb hby d1_55) rfl rfl zk) ?_
        refine Go.st (T' := T19) (g' := (mkF m 57 #[.val (.ref b), .val (.int n)] [(.int (1 : Int32)), (.ref b16), (.ref b16), (.ref b15), (.ref b15)])) (fun _ zk => XS.iconst X19.here hx rfl (hb hby d1_56) zk) ?_
        refine Go.st (T' := T19) (g' := (mkF m 58 #[.val (.ref b), .val (.int n)] [(.ref b), (.int (1 : Int32)), (.ref b16), (.ref b16), (.ref b15), (.ref b15)])) (fun _ zk => XS.aloadN X19.here hx rfl (hb hby d1_57) rfl rfl zk) ?_
        refine Go.st (T' := T19) (g' := (mkF m 59 #[.val (.ref b), .val (.int n)] [(.int (1 : Int32)), (.ref b), (.int (1 : Int32)), (.ref b16), (.ref b16), (.ref b15), (.ref b15)])) (fun _ zk => XS.iconst X19.here hx rfl (hb hby d1_58) zk) ?_
        have f20 := (f18.other W19 (ne_lt VC.lt E15.1 (Nat.le_of_eq g16.symm)))
        refine Go.st (T' := T19) (g' := (mkF m 60 #[.val (.ref b), .val (.int n)] [(.int (cs.getD 1 0)), (.int (1 : Int32)), (.ref b16), (.ref b16), (.ref b15), (.ref b15)])) (fun _ zk => ldCV X19 hx hZ e19 f20 (j := (1 : Int32)) ⟨by decide, by decide⟩ (v := (.int (cs.getD 1 0))) (own_getD cs 1) (g := (mkF m 59 #[.val (.ref b), .val (.int n)] [(.int (1 : Int32)), (.ref b), (.int (1 : Int32)), (.ref b16), (.ref b16), (.ref b15), (.ref b15)])) rfl (rest := [(.int (1 : Int32)), (.ref b16), (.ref b16), (.ref b15), (.ref b15)]) rfl (hb hby d1_59) zk) ?_
        obtain ⟨T21, h21, X21, e21, W21, V21, st21⟩ := stCV X19 hx hZ e19 V19' (j := (1 : Int32)) (i := 1) (by decide) rfl (Nat.le_of_ble_eq_true rfl) (g := (mkF m 60 #[.val (.ref b), .val (.int n)] [(.int (cs.getD 1 0)), (.int (1 : Int32)), (.ref b16), (.ref b16), (.ref b15), (.ref b15)])) rfl rfl (hb hby d1_60)
        rw [nar_cid (x := cs.getD 1 0) (own_rg hr hcs (by decide))] at V21
        have V21' : Arv Z h21 b16 k16 .char (2 : Int32) [(.int (cs.getD 0 0)), (.int (cs.getD 1 0))] (.int (0 : Int32)) := V21
        have N21 := Fr.snoc X21 N19 (Nat.le_trans Z0 (Nat.le_trans E15.1 (Nat.le_of_eq g16.symm)))
        refine Go.st (T' := T21) (g' := (mkF m 61 #[.val (.ref b), .val (.int n)] [(.ref b16), (.ref b15), (.ref b15)])) (fun _ zk => st21 _ zk) ?_
        have hrg : ∀ x ∈ [(cs.getD 0 0), (cs.getD 1 0)], 0 ≤ x.toInt ∧ x.toInt < 65536 := by
          simp only [List.forall_mem_cons]
          exact ⟨own_rg hr hcs (by decide), own_rg hr hcs (by decide), fun _ q => nomatch q⟩
        have xt22 : Ext h15 h21 := ((E16.thenW W19 (Nat.le_of_eq g16.symm)).thenW W21 (Nat.le_of_eq g16.symm))
        have f23 := A15.ext xt22
        have f24 := F15_coder.ext xt22
        have f25 := F15_value.ext xt22
        have xt27 : Ext h0 h21 := ((xt17.thenW W19 (Nat.le_trans E15.1 (Nat.le_of_eq g16.symm))).thenW W21 (Nat.le_trans E15.1 (Nat.le_of_eq g16.symm)))
        have f28 := O0.ext xt27
        refine Go.callSp (y := (⟨"java/lang/String", "<init>", "([C)V"⟩ : MethodName)) (a := b15) X21 hx hZ hown e21 rfl (w10 hw) (w11 hw) (w9 hw) (w12 hw) (by decide) (argsL := [(.ref b16)]) (rest := [(.ref b15)]) (W := 1) (rm_init1W l Z a0 hw [] b15 b16 k16 [(cs.getD 0 0), (cs.getD 1 0)] 2 zc h21 n0 (Nat.le_trans Z0 (Nat.le_trans (Nat.le_trans (Nat.le_trans E15.1 E16.1) (Keep.of_wr W19).1) (Keep.of_wr W21).1)) f28 f23 (Nat.le_trans Z0 (Nat.le_trans (Nat.le_refl _) (Nat.le_of_eq g15.symm))) f24 f25 V21' (by decide) rfl (by decide) (by decide) hrg CS hz UA UH UL) rfl (lenOf pd25 rfl) rfl (by rw [hml]; rfl) rfl (by show 2 * 0 + _ ≤ _; exact Nat.le_of_eq rfl) (by decide) (by decide) (by decide) (by decide) (hb hby d1_61) ?_
        intro v26 T26 h26 L26 X26 e26 q26
        obtain ⟨hv26, Nf26, K26, SC⟩ := q26
        subst hv26
        have N26 := Fr.app N21 Nf26
        show Go p.tables e below _ T26 (mkF m 64 #[.val (.ref b), .val (.int n)] [(.ref b15)])
        have xt29 : Ext h0 h26 := (xt27.thenK K26 (allS (P := fun x => h0.size ≤ x) (Nat.le_of_eq g15.symm) all0))
        have cr30 := chrE hA xt29
        refine Go.retAS X26 hx hlk hS (Nat.le_trans (Nat.zero_le _) (Nat.le_trans (Nat.le_trans (Nat.le_trans (Nat.le_trans E15.1 E16.1) (Keep.of_wr W19).1) (Keep.of_wr W21).1) K26.1)) cr30 hZ hEL hret rfl rfl (hb hby d1_64) (by decide) (by decide) e26 ?_
        exact ⟨_, [(cs.getD 0 0), (cs.getD 1 0)], rfl, N26, xt29, (Nat.le_trans (Nat.le_refl _) (Nat.le_of_eq g15.symm)), Nat.le_of_ble_eq_true rfl, hrg, SC⟩
      · refine Go.st (T' := s₁) (g' := (mkF m 65 #[.val (.ref b), .val (.int n)] [])) (fun _ zk => XS.icmpYes X0.here hx rfl (pc0 := 39) (pc' := 65) rfl (hb hby d1_39) rfl (feq hc39).2 (by decide) (by decide) zk) ?_
        refine Go.st (T' := s₁) (g' := (mkF m 66 #[.val (.ref b), .val (.int n)] [(.int n)])) (fun _ zk => XS.iloadN X0.here hx rfl (hb hby d1_65) rfl zk) ?_
        refine Go.st (T' := s₁) (g' := (mkF m 67 #[.val (.ref b), .val (.int n)] [(.int (3 : Int32)), (.int n)])) (fun _ zk => XS.iconst X0.here hx rfl (hb hby d1_66) zk) ?_
        by_cases hc67 : n = (3 : Int32)
        · refine Go.st (T' := s₁) (g' := (mkF m 70 #[.val (.ref b), .val (.int n)] [])) (fun _ zk => XS.icmpNo X0.here hx rfl (hb hby d1_67) rfl (teq hc67).2 zk) ?_
          obtain ⟨T31, h31, X31, e31, E31, A31, D31, -, st31⟩ := newO X0 hx hZ hown (w7 hw) (w8 hw) (w9 hw) e0 (g := (mkF m 70 #[.val (.ref b), .val (.int n)] [])) rfl (hb hby d1_70) (by decide) (by decide)
          obtain ⟨b31, g31⟩ : ∃ z, z = h0.size := ⟨_, rfl⟩
          rw [← g31] at A31 D31 st31
          have F31_value : Fld Z h31 b31 "java/lang/String" "value" "[B" .null := D31 (Or.inr (w22 hw)) (ty := (.array .byte)) (by decide)
          have F31_coder : Fld Z h31 b31 "java/lang/String" "coder" "B" (.int (0 : Int32)) := D31 (Or.inr (w23 hw)) (ty := .byte) (by decide)
          refine Go.st (T' := T31) (g' := (mkF m 73 #[.val (.ref b), .val (.int n)] [(.ref b31)])) (fun _ zk => st31 _ zk) ?_
          refine Go.st (T' := T31) (g' := (mkF m 74 #[.val (.ref b), .val (.int n)] [(.ref b31), (.ref b31)])) (fun _ zk => XS.dup X31.here hx rfl (hb hby d1_73) rfl rfl zk) ?_
          refine Go.st (T' := T31) (g' := (mkF m 75 #[.val (.ref b), .val (.int n)] [(.int (3 : Int32)), (.ref b31), (.ref b31)])) (fun _ zk => XS.iconst X31.here hx rfl (hb hby d1_74) zk) ?_
          obtain ⟨T32, h32, k32, X32, e32, E32, A32, st32⟩ := newP (aty := .char) X31 hx hZ (w2 hw) e31 (g := (mkF m 75 #[.val (.ref b), .val (.int n)] [(.int (3 : Int32)), (.ref b31), (.ref b31)])) rfl (hb hby d1_75) rfl (by decide) (cap := 3) (by decide) (by decide) (by decide) (by decide)
          obtain ⟨b32, g32⟩ : ∃ z, z = h31.size := ⟨_, rfl⟩
          rw [← g32] at A32 st32
          have V32 : Arv Z h32 b32 k32 .char (3 : Int32) [(.int (0 : Int32)), (.int (0 : Int32)), (.int (0 : Int32))] (.int (0 : Int32)) := (Arv.new A32 (by decide)).pad (pad_rep [] (.int (0 : Int32)) 3)
          refine Go.st (T' := T32) (g' := (mkF m 77 #[.val (.ref b), .val (.int n)] [(.ref b32), (.ref b31), (.ref b31)])) (fun _ zk => st32 _ zk) ?_
          refine Go.st (T' := T32) (g' := (mkF m 78 #[.val (.ref b), .val (.int n)] [(.ref b32), (.ref b32), (.ref b31), (.ref b31)])) (fun _ zk => XS.dup X32.here hx rfl (hb hby d1_77) rfl rfl zk) ?_
          refine Go.st (T' := T32) (g' := (mkF m 79 #[.val (.ref b), .val (.int n)] [(.int (0 : Int32)), (.ref b32), (.ref b32), (.ref b31), (.ref b31)])) (fun _ zk => XS.iconst X32.here hx rfl (hb hby d1_78) zk) ?_
          refine Go.st (T' := T32) (g' := (mkF m 80 #[.val (.ref b), .val (.int n)] [(.ref b), (.int (0 : Int32)), (.ref b32), (.ref b32), (.ref b31), (.ref b31)])) (fun _ zk => XS.aloadN X32.here hx rfl (hb hby d1_79) rfl rfl zk) ?_
          refine Go.st (T' := T32) (g' := (mkF m 81 #[.val (.ref b), .val (.int n)] [(.int (0 : Int32)), (.ref b), (.int (0 : Int32)), (.ref b32), (.ref b32), (.ref b31), (.ref b31)])) (fun _ zk => XS.iconst X32.here hx rfl (hb hby d1_80) zk) ?_
          have xt33 : Ext h0 h32 := (E31.tr E32)
          have f34 := VC.ext xt33
          refine Go.st (T' := T32) (g' := (mkF m 82 #[.val (.ref b), .val (.int n)] [(.int (cs.getD 0 0)), (.int (0 : Int32)), (.ref b32), (.ref b32), (.ref b31), (.ref b31)])) (fun _ zk => ldCV X32 hx hZ e32 f34 (j := (0 : Int32)) ⟨by decide, by decide⟩ (v := (.int (cs.getD 0 0))) (own_getD cs 0) (g := (mkF m 81 #[.val (.ref b), .val (.int n)] [(.int (0 : Int32)), (.ref b), (.int (0 : Int32)), (.ref b32), (.ref b32), (.ref b31), (.ref b31)])) rfl (rest := [(.int (0 : Int32)), (.ref b32), (.ref b32), (.ref b31), (.ref b31)]) rfl (hb hby d1_81) zk) ?_
          obtain ⟨T35, h35, X35, e35, W35, V35, st35⟩ := stCV X32 hx hZ e32 V32 (j := (0 : Int32)) (i := 0) (by decide) rfl (Nat.le_of_ble_eq_true rfl) (g := (mkF m 82 #[.val (.ref b), .val (.int n)] [(.int (cs.getD 0 0)), (.int (0 : Int32)), (.ref b32), (.ref b32), (.ref b31), (.ref b31)])) rfl rfl (hb hby d1_82)
          rw [nar_cid (x := cs.getD 0 0) (own_rg hr hcs (by decide))] at V35
          have V35' : Arv Z h35 b32 k32 .char (3 : Int32) [(.int (cs.getD 0 0)), (.int (0 : Int32)), (.int (0 : Int32))] (.int (0 : Int32)) := V35
          have N35 := Fr.snoc X35 N0 (Nat.le_trans Z0 (Nat.le_trans E31.1 (Nat.le_of_eq g32.symm)))
          refine Go.st (T' := T35) (g' := (mkF m 83 #[.val (.ref b), .val (.int n)] [(.ref b32), (.ref b31), (.ref b31)])) (fun _ zk => st35 _ zk) ?_
          refine Go.st (T' := T35) (g' := (mkF m 84 #[.val (.ref b), .val (.int n)] [(.ref b32), (.ref b32), (.ref b31), (.ref b31)])) (fun _ zk => XS.dup X35.here hx rfl (hb hby d1_83) rfl rfl zk) ?_
          refine Go.st (T' := T35) (g' := (mkF m 85 #[.val (.ref b), .val (.int n)] [(.int (1 : Int32)), (.ref b32), (.ref b32), (.ref b31), (.ref b31)])) (fun _ zk => XS.iconst X35.here hx rfl (hb hby d1_84) zk) ?_
          refine Go.st (T' := T35) (g' := (mkF m 86 #[.val (.ref b), .val (.int n)] [(.ref b), (.int (1 : Int32)), (.ref b32), (.ref b32), (.ref b31), (.ref b31)])) (fun _ zk => XS.aloadN X35.here hx rfl (hb hby d1_85) rfl rfl zk) ?_
          refine Go.st (T' := T35) (g' := (mkF m 87 #[.val (.ref b), .val (.int n)] [(.int (1 : Int32)), (.ref b), (.int (1 : Int32)), (.ref b32), (.ref b32), (.ref b31), (.ref b31)])) (fun _ zk => XS.iconst X35.here hx rfl (hb hby d1_86) zk) ?_
          have f36 := (f34.other W35 (ne_lt VC.lt E31.1 (Nat.le_of_eq g32.symm)))
          refine Go.st (T' := T35) (g' := (mkF m 88 #[.val (.ref b), .val (.int n)] [(.int (cs.getD 1 0)), (.int (1 : Int32)), (.ref b32), (.ref b32), (.ref b31), (.ref b31)])) (fun _ zk => ldCV X35 hx hZ e35 f36 (j := (1 : Int32)) ⟨by decide, by decide⟩ (v := (.int (cs.getD 1 0))) (own_getD cs 1) (g := (mkF m 87 #[.val (.ref b), .val (.int n)] [(.int (1 : Int32)), (.ref b), (.int (1 : Int32)), (.ref b32), (.ref b32), (.ref b31), (.ref b31)])) rfl (rest := [(.int (1 : Int32)), (.ref b32), (.ref b32), (.ref b31), (.ref b31)]) rfl (hb hby d1_87) zk) ?_
          obtain ⟨T37, h37, X37, e37, W37, V37, st37⟩ := stCV X35 hx hZ e35 V35' (j := (1 : Int32)) (i := 1) (by decide) rfl (Nat.le_of_ble_eq_true rfl) (g := (mkF m 88 #[.val (.ref b), .val (.int n)] [(.int (cs.getD 1 0)), (.int (1 : Int32)), (.ref b32), (.ref b32), (.ref b31), (.ref b31)])) rfl rfl (hb hby d1_88)
          rw [nar_cid (x := cs.getD 1 0) (own_rg hr hcs (by decide))] at V37
          have V37' : Arv Z h37 b32 k32 .char (3 : Int32) [(.int (cs.getD 0 0)), (.int (cs.getD 1 0)), (.int (0 : Int32))] (.int (0 : Int32)) := V37
          have N37 := Fr.snoc X37 N35 (Nat.le_trans Z0 (Nat.le_trans E31.1 (Nat.le_of_eq g32.symm)))
          refine Go.st (T' := T37) (g' := (mkF m 89 #[.val (.ref b), .val (.int n)] [(.ref b32), (.ref b31), (.ref b31)])) (fun _ zk => st37 _ zk) ?_
          refine Go.st (T' := T37) (g' := (mkF m 90 #[.val (.ref b), .val (.int n)] [(.ref b32), (.ref b32), (.ref b31), (.ref b31)])) (fun _ zk => XS.dup X37.here hx rfl (hb hby d1_89) rfl rfl zk) ?_
          refine Go.st (T' := T37) (g' := (mkF m 91 #[.val (.ref b), .val (.int n)] [(.int (2 : Int32)), (.ref b32), (.ref b32), (.ref b31), (.ref b31)])) (fun _ zk => XS.iconst X37.here hx rfl (hb hby d1_90) zk) ?_
          refine Go.st (T' := T37) (g' := (mkF m 92 #[.val (.ref b), .val (.int n)] [(.ref b), (.int (2 : Int32)), (.ref b32), (.ref b32), (.ref b31), (.ref b31)])) (fun _ zk => XS.aloadN X37.here hx rfl (hb hby d1_91) rfl rfl zk) ?_
          refine Go.st (T' := T37) (g' := (mkF m 93 #[.val (.ref b), .val (.int n)] [(.int (2 : Int32)), (.ref b), (.int (2 : Int32)), (.ref b32), (.ref b32), (.ref b31), (.ref b31)])) (fun _ zk => XS.iconst X37.here hx rfl (hb hby d1_92) zk) ?_
          have f38 := (f36.other W37 (ne_lt VC.lt E31.1 (Nat.le_of_eq g32.symm)))
          refine Go.st (T' := T37) (g' := (mkF m 94 #[.val (.ref b), .val (.int n)] [(.int (cs.getD 2 0)), (.int (2 : Int32)), (.ref b32), (.ref b32), (.ref b31), (.ref b31)])) (fun _ zk => ldCV X37 hx hZ e37 f38 (j := (2 : Int32)) ⟨by decide, by decide⟩ (v := (.int (cs.getD 2 0))) (own_getD cs 2) (g := (mkF m 93 #[.val (.ref b), .val (.int n)] [(.int (2 : Int32)), (.ref b), (.int (2 : Int32)), (.ref b32), (.ref b32), (.ref b31), (.ref b31)])) rfl (rest := [(.int (2 : Int32)), (.ref b32), (.ref b32), (.ref b31), (.ref b31)]) rfl (hb hby d1_93) zk) ?_
          obtain ⟨T39, h39, X39, e39, W39, V39, st39⟩ := stCV X37 hx hZ e37 V37' (j := (2 : Int32)) (i := 2) (by decide) rfl (Nat.le_of_ble_eq_true rfl) (g := (mkF m 94 #[.val (.ref b), .val (.int n)] [(.int (cs.getD 2 0)), (.int (2 : Int32)), (.ref b32), (.ref b32), (.ref b31), (.ref b31)])) rfl rfl (hb hby d1_94)
          rw [nar_cid (x := cs.getD 2 0) (own_rg hr hcs (by decide))] at V39
          have V39' : Arv Z h39 b32 k32 .char (3 : Int32) [(.int (cs.getD 0 0)), (.int (cs.getD 1 0)), (.int (cs.getD 2 0))] (.int (0 : Int32)) := V39
          have N39 := Fr.snoc X39 N37 (Nat.le_trans Z0 (Nat.le_trans E31.1 (Nat.le_of_eq g32.symm)))
          refine Go.st (T' := T39) (g' := (mkF m 95 #[.val (.ref b), .val (.int n)] [(.ref b32), (.ref b31), (.ref b31)])) (fun _ zk => st39 _ zk) ?_
          have hrg : ∀ x ∈ [(cs.getD 0 0), (cs.getD 1 0), (cs.getD 2 0)], 0 ≤ x.toInt ∧ x.toInt < 65536 := by
            simp only [List.forall_mem_cons]
            exact ⟨own_rg hr hcs (by decide), own_rg hr hcs (by decide), own_rg hr hcs (by decide), fun _ q => nomatch q⟩
          have xt40 : Ext h31 h39 := (((E32.thenW W35 (Nat.le_of_eq g32.symm)).thenW W37 (Nat.le_of_eq g32.symm)).thenW W39 (Nat.le_of_eq g32.symm))
          have f41 := A31.ext xt40
          have f42 := F31_coder.ext xt40
          have f43 := F31_value.ext xt40
          have xt45 : Ext h0 h39 := (((xt33.thenW W35 (Nat.le_trans E31.1 (Nat.le_of_eq g32.symm))).thenW W37 (Nat.le_trans E31.1 (Nat.le_of_eq g32.symm))).thenW W39 (Nat.le_trans E31.1 (Nat.le_of_eq g32.symm)))
          have f46 := O0.ext xt45
          refine Go.callSp (y := (⟨"java/lang/String", "<init>", "([C)V"⟩ : MethodName)) (a := b31) X39 hx hZ hown e39 rfl (w10 hw) (w11 hw) (w9 hw) (w12 hw) (by decide) (argsL := [(.ref b32)]) (rest := [(.ref b31)]) (W := 1) (rm_init1W l Z a0 hw [] b31 b32 k32 [(cs.getD 0 0), (cs.getD 1 0), (cs.getD 2 0)] 3 zc h39 n0 (Nat.le_trans Z0 (Nat.le_trans (Nat.le_trans (Nat.le_trans (Nat.le_trans E31.1 E32.1) (Keep.of_wr W35).1) (Keep.of_wr W37).1) (Keep.of_wr W39).1)) f46 f41 (Nat.le_trans Z0 (Nat.le_trans (Nat.le_refl _) (Nat.le_of_eq g31.symm))) f42 f43 V39' (by decide) rfl (by decide) (by decide) hrg CS hz UA UH UL) rfl (lenOf pd25 rfl) rfl (by rw [hml]; rfl) rfl (by show 2 * 0 + _ ≤ _; exact Nat.le_of_eq rfl) (by decide) (by decide) (by decide) (by decide) (hb hby d1_95) ?_
          intro v44 T44 h44 L44 X44 e44 q44
          obtain ⟨hv44, Nf44, K44, SC⟩ := q44
          subst hv44
          have N44 := Fr.app N39 Nf44
          show Go p.tables e below _ T44 (mkF m 98 #[.val (.ref b), .val (.int n)] [(.ref b31)])
          have xt47 : Ext h0 h44 := (xt45.thenK K44 (allS (P := fun x => h0.size ≤ x) (Nat.le_of_eq g31.symm) all0))
          have cr48 := chrE hA xt47
          refine Go.retAS X44 hx hlk hS (Nat.le_trans (Nat.zero_le _) (Nat.le_trans (Nat.le_trans (Nat.le_trans (Nat.le_trans (Nat.le_trans E31.1 E32.1) (Keep.of_wr W35).1) (Keep.of_wr W37).1) (Keep.of_wr W39).1) K44.1)) cr48 hZ hEL hret rfl rfl (hb hby d1_98) (by decide) (by decide) e44 ?_
          exact ⟨_, [(cs.getD 0 0), (cs.getD 1 0), (cs.getD 2 0)], rfl, N44, xt47, (Nat.le_trans (Nat.le_refl _) (Nat.le_of_eq g31.symm)), Nat.le_of_ble_eq_true rfl, hrg, SC⟩
        · refine Go.st (T' := s₁) (g' := (mkF m 99 #[.val (.ref b), .val (.int n)] [])) (fun _ zk => XS.icmpYes X0.here hx rfl (pc0 := 67) (pc' := 99) rfl (hb hby d1_67) rfl (feq hc67).2 (by decide) (by decide) zk) ?_
          refine Go.st (T' := s₁) (g' := (mkF m 100 #[.val (.ref b), .val (.int n)] [(.int n)])) (fun _ zk => XS.iloadN X0.here hx rfl (hb hby d1_99) rfl zk) ?_
          refine Go.st (T' := s₁) (g' := (mkF m 101 #[.val (.ref b), .val (.int n)] [(.int (4 : Int32)), (.int n)])) (fun _ zk => XS.iconst X0.here hx rfl (hb hby d1_100) zk) ?_
          by_cases hc101 : n = (4 : Int32)
          · refine Go.st (T' := s₁) (g' := (mkF m 104 #[.val (.ref b), .val (.int n)] [])) (fun _ zk => XS.icmpNo X0.here hx rfl (hb hby d1_101) rfl (teq hc101).2 zk) ?_
            obtain ⟨T49, h49, X49, e49, E49, A49, D49, -, st49⟩ := newO X0 hx hZ hown (w7 hw) (w8 hw) (w9 hw) e0 (g := (mkF m 104 #[.val (.ref b), .val (.int n)] [])) rfl (hb hby d1_104) (by decide) (by decide)
            obtain ⟨b49, g49⟩ : ∃ z, z = h0.size := ⟨_, rfl⟩
            rw [← g49] at A49 D49 st49
            have F49_value : Fld Z h49 b49 "java/lang/String" "value" "[B" .null := D49 (Or.inr (w22 hw)) (ty := (.array .byte)) (by decide)
            have F49_coder : Fld Z h49 b49 "java/lang/String" "coder" "B" (.int (0 : Int32)) := D49 (Or.inr (w23 hw)) (ty := .byte) (by decide)
            refine Go.st (T' := T49) (g' := (mkF m 107 #[.val (.ref b), .val (.int n)] [(.ref b49)])) (fun _ zk => st49 _ zk) ?_
            refine Go.st (T' := T49) (g' := (mkF m 108 #[.val (.ref b), .val (.int n)] [(.ref b49), (.ref b49)])) (fun _ zk => XS.dup X49.here hx rfl (hb hby d1_107) rfl rfl zk) ?_
            refine Go.st (T' := T49) (g' := (mkF m 109 #[.val (.ref b), .val (.int n)] [(.int (4 : Int32)), (.ref b49), (.ref b49)])) (fun _ zk => XS.iconst X49.here hx rfl (hb hby d1_108) zk) ?_
            obtain ⟨T50, h50, k50, X50, e50, E50, A50, st50⟩ := newP (aty := .char) X49 hx hZ (w2 hw) e49 (g := (mkF m 109 #[.val (.ref b), .val (.int n)] [(.int (4 : Int32)), (.ref b49), (.ref b49)])) rfl (hb hby d1_109) rfl (by decide) (cap := 4) (by decide) (by decide) (by decide) (by decide)
            obtain ⟨b50, g50⟩ : ∃ z, z = h49.size := ⟨_, rfl⟩
            rw [← g50] at A50 st50
            have V50 : Arv Z h50 b50 k50 .char (4 : Int32) [(.int (0 : Int32)), (.int (0 : Int32)), (.int (0 : Int32)), (.int (0 : Int32))] (.int (0 : Int32)) := (Arv.new A50 (by decide)).pad (pad_rep [] (.int (0 : Int32)) 4)
            refine Go.st (T' := T50) (g' := (mkF m 111 #[.val (.ref b), .val (.int n)] [(.ref b50), (.ref b49), (.ref b49)])) (fun _ zk => st50 _ zk) ?_
            refine Go.st (T' := T50) (g' := (mkF m 112 #[.val (.ref b), .val (.int n)] [(.ref b50), (.ref b50), (.ref b49), (.ref b49)])) (fun _ zk => XS.dup X50.here hx rfl (hb hby d1_111) rfl rfl zk) ?_
            refine Go.st (T' := T50) (g' := (mkF m 113 #[.val (.ref b), .val (.int n)] [(.int (0 : Int32)), (.ref b50), (.ref b50), (.ref b49), (.ref b49)])) (fun _ zk => XS.iconst X50.here hx rfl (hb hby d1_112) zk) ?_
            refine Go.st (T' := T50) (g' := (mkF m 114 #[.val (.ref b), .val (.int n)] [(.ref b), (.int (0 : Int32)), (.ref b50), (.ref b50), (.ref b49), (.ref b49)])) (fun _ zk => XS.aloadN X50.here hx rfl (hb hby d1_113) rfl rfl zk) ?_
            refine Go.st (T' := T50) (g' := (mkF m 115 #[.val (.ref b), .val (.int n)] [(.int (0 : Int32)), (.ref b), (.int (0 : Int32)), (.ref b50), (.ref b50), (.ref b49), (.ref b49)])) (fun _ zk => XS.iconst X50.here hx rfl (hb hby d1_114) zk) ?_
            have xt51 : Ext h0 h50 := (E49.tr E50)
            have f52 := VC.ext xt51
            refine Go.st (T' := T50) (g' := (mkF m 116 #[.val (.ref b), .val (.int n)] [(.int (cs.getD 0 0)), (.int (0 : Int32)), (.ref b50), (.ref b50), (.ref b49), (.ref b49)])) (fun _ zk => ldCV X50 hx hZ e50 f52 (j := (0 : Int32)) ⟨by decide, by decide⟩ (v := (.int (cs.getD 0 0))) (own_getD cs 0) (g := (mkF m 115 #[.val (.ref b), .val (.int n)] [(.int (0 : Int32)), (.ref b), (.int (0 : Int32)), (.ref b50), (.ref b50), (.ref b49), (.ref b49)])) rfl (rest := [(.int (0 : Int32)), (.ref b50), (.ref b50), (.ref b49), (.ref b49)]) rfl (hb hby d1_115) zk) ?_
            obtain ⟨T53, h53, X53, e53, W53, V53, st53⟩ := stCV X50 hx hZ e50 V50 (j := (0 : Int32)) (i := 0) (by decide) rfl (Nat.le_of_ble_eq_true rfl) (g := (mkF m 116 #[.val (.ref b), .val (.int n)] [(.int (cs.getD 0 0)), (.int (0 : Int32)), (.ref b50), (.ref b50), (.ref b49), (.ref b49)])) rfl rfl (hb hby d1_116)
            rw [nar_cid (x := cs.getD 0 0) (own_rg hr hcs (by decide))] at V53
            have V53' : Arv Z h53 b50 k50 .char (4 : Int32) [(.int (cs.getD 0 0)), (.int (0 : Int32)), (.int (0 : Int32)), (.int (0 : Int32))] (.int (0 : Int32)) := V53
            have N53 := Fr.snoc X53 N0 (Nat.le_trans Z0 (Nat.le_trans E49.1 (Nat.le_of_eq g50.symm)))
            refine Go.st (T' := T53) (g' := (mkF m 117 #[.val (.ref b), .val (.int n)] [(.ref b50), (.ref b49), (.ref b49)])) (fun _ zk => st53 _ zk) ?_
            refine Go.st (T' := T53) (g' := (mkF m 118 #[.val (.ref b), .val (.int n)] [(.ref b50), (.ref b50), (.ref b49), (.ref b49)])) (fun _ zk => XS.dup X53.here hx rfl (hb hby d1_117) rfl rfl zk) ?_
            refine Go.st (T' := T53) (g' := (mkF m 119 #[.val (.ref b), .val (.int n)] [(.int (1 : Int32)), (.ref b50), (.ref b50), (.ref b49), (.ref b49)])) (fun _ zk => XS.iconst X53.here hx rfl (hb hby d1_118) zk) ?_
            refine Go.st (T' := T53) (g' := (mkF m 120 #[.val (.ref b), .val (.int n)] [(.ref b), (.int (1 : Int32)), (.ref b50), (.ref b50), (.ref b49), (.ref b49)])) (fun _ zk => XS.aloadN X53.here hx rfl (hb hby d1_119) rfl rfl zk) ?_
            refine Go.st (T' := T53) (g' := (mkF m 121 #[.val (.ref b), .val (.int n)] [(.int (1 : Int32)), (.ref b), (.int (1 : Int32)), (.ref b50), (.ref b50), (.ref b49), (.ref b49)])) (fun _ zk => XS.iconst X53.here hx rfl (hb hby d1_120) zk) ?_
            have f54 := (f52.other W53 (ne_lt VC.lt E49.1 (Nat.le_of_eq g50.symm)))
            refine Go.st (T' := T53) (g' := (mkF m 122 #[.val (.ref b), .val (.int n)] [(.int (cs.getD 1 0)), (.int (1 : Int32)), (.ref b50), (.ref b50), (.ref b49), (.ref b49)])) (fun _ zk => ldCV X53 hx hZ e53 f54 (j := (1 : Int32)) ⟨by decide, by decide⟩ (v := (.int (cs.getD 1 0))) (own_getD cs 1) (g := (mkF m 121 #[.val (.ref b), .val (.int n)] [(.int (1 : Int32)), (.ref b), (.int (1 : Int32)), (.ref b50), (.ref b50), (.ref b49), (.ref b49)])) rfl (rest := [(.int (1 : Int32)), (.ref b50), (.ref b50), (.ref b49), (.ref b49)]) rfl (hb hby d1_121) zk) ?_
            obtain ⟨T55, h55, X55, e55, W55, V55, st55⟩ := stCV X53 hx hZ e53 V53' (j := (1 : Int32)) (i := 1) (by decide) rfl (Nat.le_of_ble_eq_true rfl) (g := (mkF m 122 #[.val (.ref b), .val (.int n)] [(.int (cs.getD 1 0)), (.int (1 : Int32)), (.ref b50), (.ref b50), (.ref b49), (.ref b49)])) rfl rfl (hb hby d1_122)
            rw [nar_cid (x := cs.getD 1 0) (own_rg hr hcs (by decide))] at V55
            have V55' : Arv Z h55 b50 k50 .char (4 : Int32) [(.int (cs.getD 0 0)), (.int (cs.getD 1 0)), (.int (0 : Int32)), (.int (0 : Int32))] (.int (0 : Int32)) := V55
            have N55 := Fr.snoc X55 N53 (Nat.le_trans Z0 (Nat.le_trans E49.1 (Nat.le_of_eq g50.symm)))
            refine Go.st (T' := T55) (g' := (mkF m 123 #[.val (.ref b), .val (.int n)] [(.ref b50), (.ref b49), (.ref b49)])) (fun _ zk => st55 _ zk) ?_
            refine Go.st (T' := T55) (g' := (mkF m 124 #[.val (.ref b), .val (.int n)] [(.ref b50), (.ref b50), (.ref b49), (.ref b49)])) (fun _ zk => XS.dup X55.here hx rfl (hb hby d1_123) rfl rfl zk) ?_
            refine Go.st (T' := T55) (g' := (mkF m 125 #[.val (.ref b), .val (.int n)] [(.int (2 : Int32)), (.ref b50), (.ref b50), (.ref b49), (.ref b49)])) (fun _ zk => XS.iconst X55.here hx rfl (hb hby d1_124) zk) ?_
            refine Go.st (T' := T55) (g' := (mkF m 126 #[.val (.ref b), .val (.int n)] [(.ref b), (.int (2 : Int32)), (.ref b50), (.ref b50), (.ref b49), (.ref b49)])) (fun _ zk => XS.aloadN X55.here hx rfl (hb hby d1_125) rfl rfl zk) ?_
            refine Go.st (T' := T55) (g' := (mkF m 127 #[.val (.ref b), .val (.int n)] [(.int (2 : Int32)), (.ref b), (.int (2 : Int32)), (.ref b50), (.ref b50), (.ref b49), (.ref b49)])) (fun _ zk => XS.iconst X55.here hx rfl (hb hby d1_126) zk) ?_
            have f56 := (f54.other W55 (ne_lt VC.lt E49.1 (Nat.le_of_eq g50.symm)))
            refine Go.st (T' := T55) (g' := (mkF m 128 #[.val (.ref b), .val (.int n)] [(.int (cs.getD 2 0)), (.int (2 : Int32)), (.ref b50), (.ref b50), (.ref b49), (.ref b49)])) (fun _ zk => ldCV X55 hx hZ e55 f56 (j := (2 : Int32)) ⟨by decide, by decide⟩ (v := (.int (cs.getD 2 0))) (own_getD cs 2) (g := (mkF m 127 #[.val (.ref b), .val (.int n)] [(.int (2 : Int32)), (.ref b), (.int (2 : Int32)), (.ref b50), (.ref b50), (.ref b49), (.ref b49)])) rfl (rest := [(.int (2 : Int32)), (.ref b50), (.ref b50), (.ref b49), (.ref b49)]) rfl (hb hby d1_127) zk) ?_
            obtain ⟨T57, h57, X57, e57, W57, V57, st57⟩ := stCV X55 hx hZ e55 V55' (j := (2 : Int32)) (i := 2) (by decide) rfl (Nat.le_of_ble_eq_true rfl) (g := (mkF m 128 #[.val (.ref b), .val (.int n)] [(.int (cs.getD 2 0)), (.int (2 : Int32)), (.ref b50), (.ref b50), (.ref b49), (.ref b49)])) rfl rfl (hb hby d1_128)
            rw [nar_cid (x := cs.getD 2 0) (own_rg hr hcs (by decide))] at V57
            have V57' : Arv Z h57 b50 k50 .char (4 : Int32) [(.int (cs.getD 0 0)), (.int (cs.getD 1 0)), (.int (cs.getD 2 0)), (.int (0 : Int32))] (.int (0 : Int32)) := V57
            have N57 := Fr.snoc X57 N55 (Nat.le_trans Z0 (Nat.le_trans E49.1 (Nat.le_of_eq g50.symm)))
            refine Go.st (T' := T57) (g' := (mkF m 129 #[.val (.ref b), .val (.int n)] [(.ref b50), (.ref b49), (.ref b49)])) (fun _ zk => st57 _ zk) ?_
            refine Go.st (T' := T57) (g' := (mkF m 130 #[.val (.ref b), .val (.int n)] [(.ref b50), (.ref b50), (.ref b49), (.ref b49)])) (fun _ zk => XS.dup X57.here hx rfl (hb hby d1_129) rfl rfl zk) ?_
            refine Go.st (T' := T57) (g' := (mkF m 131 #[.val (.ref b), .val (.int n)] [(.int (3 : Int32)), (.ref b50), (.ref b50), (.ref b49), (.ref b49)])) (fun _ zk => XS.iconst X57.here hx rfl (hb hby d1_130) zk) ?_
            refine Go.st (T' := T57) (g' := (mkF m 132 #[.val (.ref b), .val (.int n)] [(.ref b), (.int (3 : Int32)), (.ref b50), (.ref b50), (.ref b49), (.ref b49)])) (fun _ zk => XS.aloadN X57.here hx rfl (hb hby d1_131) rfl rfl zk) ?_
            refine Go.st (T' := T57) (g' := (mkF m 133 #[.val (.ref b), .val (.int n)] [(.int (3 : Int32)), (.ref b), (.int (3 : Int32)), (.ref b50), (.ref b50), (.ref b49), (.ref b49)])) (fun _ zk => XS.iconst X57.here hx rfl (hb hby d1_132) zk) ?_
            have f58 := (f56.other W57 (ne_lt VC.lt E49.1 (Nat.le_of_eq g50.symm)))
            refine Go.st (T' := T57) (g' := (mkF m 134 #[.val (.ref b), .val (.int n)] [(.int (cs.getD 3 0)), (.int (3 : Int32)), (.ref b50), (.ref b50), (.ref b49), (.ref b49)])) (fun _ zk => ldCV X57 hx hZ e57 f58 (j := (3 : Int32)) ⟨by decide, by decide⟩ (v := (.int (cs.getD 3 0))) (own_getD cs 3) (g := (mkF m 133 #[.val (.ref b), .val (.int n)] [(.int (3 : Int32)), (.ref b), (.int (3 : Int32)), (.ref b50), (.ref b50), (.ref b49), (.ref b49)])) rfl (rest := [(.int (3 : Int32)), (.ref b50), (.ref b50), (.ref b49), (.ref b49)]) rfl (hb hby d1_133) zk) ?_
            obtain ⟨T59, h59, X59, e59, W59, V59, st59⟩ := stCV X57 hx hZ e57 V57' (j := (3 : Int32)) (i := 3) (by decide) rfl (Nat.le_of_ble_eq_true rfl) (g := (mkF m 134 #[.val (.ref b), .val (.int n)] [(.int (cs.getD 3 0)), (.int (3 : Int32)), (.ref b50), (.ref b50), (.ref b49), (.ref b49)])) rfl rfl (hb hby d1_134)
            rw [nar_cid (x := cs.getD 3 0) (own_rg hr hcs (by decide))] at V59
            have V59' : Arv Z h59 b50 k50 .char (4 : Int32) [(.int (cs.getD 0 0)), (.int (cs.getD 1 0)), (.int (cs.getD 2 0)), (.int (cs.getD 3 0))] (.int (0 : Int32)) := V59
            have N59 := Fr.snoc X59 N57 (Nat.le_trans Z0 (Nat.le_trans E49.1 (Nat.le_of_eq g50.symm)))
            refine Go.st (T' := T59) (g' := (mkF m 135 #[.val (.ref b), .val (.int n)] [(.ref b50), (.ref b49), (.ref b49)])) (fun _ zk => st59 _ zk) ?_
            have hrg : ∀ x ∈ [(cs.getD 0 0), (cs.getD 1 0), (cs.getD 2 0), (cs.getD 3 0)], 0 ≤ x.toInt ∧ x.toInt < 65536 := by
              simp only [List.forall_mem_cons]
              exact ⟨own_rg hr hcs (by decide), own_rg hr hcs (by decide), own_rg hr hcs (by decide), own_rg hr hcs (by decide), fun _ q => nomatch q⟩
            have xt60 : Ext h49 h59 := ((((E50.thenW W53 (Nat.le_of_eq g50.symm)).thenW W55 (Nat.le_of_eq g50.symm)).thenW W57 (Nat.le_of_eq g50.symm)).thenW W59 (Nat.le_of_eq g50.symm))
            have f61 := A49.ext xt60
            have f62 := F49_coder.ext xt60
            have f63 := F49_value.ext xt60
            have xt65 : Ext h0 h59 := ((((xt51.thenW W53 (Nat.le_trans E49.1 (Nat.le_of_eq g50.symm))).thenW W55 (Nat.le_trans E49.1 (Nat.le_of_eq g50.symm))).thenW W57 (Nat.le_trans E49.1 (Nat.le_of_eq g50.symm))).thenW W59 (Nat.le_trans E49.1 (Nat.le_of_eq g50.symm)))
            have f66 := O0.ext xt65
            refine Go.callSp (y := (⟨"java/lang/String", "<init>", "([C)V"⟩ : MethodName)) (a := b49) X59 hx hZ hown e59 rfl (w10 hw) (w11 hw) (w9 hw) (w12 hw) (by decide) (argsL := [(.ref b50)]) (rest := [(.ref b49)]) (W := 1) (rm_init1W l Z a0 hw [] b49 b50 k50 [(cs.getD 0 0), (cs.getD 1 0), (cs.getD 2 0), (cs.getD 3 0)] 4 zc h59 n0 (Nat.le_trans Z0 (Nat.le_trans (Nat.le_trans (Nat.le_trans (Nat.le_trans (Nat.le_trans E49.1 E50.1) (Keep.of_wr W53).1) (Keep.of_wr W55).1) (Keep.of_wr W57).1) (Keep.of_wr W59).1)) f66 f61 (Nat.le_trans Z0 (Nat.le_trans (Nat.le_refl _) (Nat.le_of_eq g49.symm))) f62 f63 V59' (by decide) rfl (by decide) (by decide) hrg CS hz UA UH UL) rfl (lenOf pd25 rfl) rfl (by rw [hml]; rfl) rfl (by show 2 * 0 + _ ≤ _; exact Nat.le_of_eq rfl) (by decide) (by decide) (by decide) (by decide) (hb hby d1_135) ?_
            intro v64 T64 h64 L64 X64 e64 q64
            obtain ⟨hv64, Nf64, K64, SC⟩ := q64
            subst hv64
            have N64 := Fr.app N59 Nf64
            show Go p.tables e below _ T64 (mkF m 138 #[.val (.ref b), .val (.int n)] [(.ref b49)])
            have xt67 : Ext h0 h64 := (xt65.thenK K64 (allS (P := fun x => h0.size ≤ x) (Nat.le_of_eq g49.symm) all0))
            have cr68 := chrE hA xt67
            refine Go.retAS X64 hx hlk hS (Nat.le_trans (Nat.zero_le _) (Nat.le_trans (Nat.le_trans (Nat.le_trans (Nat.le_trans (Nat.le_trans (Nat.le_trans E49.1 E50.1) (Keep.of_wr W53).1) (Keep.of_wr W55).1) (Keep.of_wr W57).1) (Keep.of_wr W59).1) K64.1)) cr68 hZ hEL hret rfl rfl (hb hby d1_138) (by decide) (by decide) e64 ?_
            exact ⟨_, [(cs.getD 0 0), (cs.getD 1 0), (cs.getD 2 0), (cs.getD 3 0)], rfl, N64, xt67, (Nat.le_trans (Nat.le_refl _) (Nat.le_of_eq g49.symm)), Nat.le_of_ble_eq_true rfl, hrg, SC⟩
          · refine Go.st (T' := s₁) (g' := (mkF m 139 #[.val (.ref b), .val (.int n)] [])) (fun _ zk => XS.icmpYes X0.here hx rfl (pc0 := 101) (pc' := 139) rfl (hb hby d1_101) rfl (feq hc101).2 (by decide) (by decide) zk) ?_
            refine Go.st (T' := s₁) (g' := (mkF m 140 #[.val (.ref b), .val (.int n)] [(.int n)])) (fun _ zk => XS.iloadN X0.here hx rfl (hb hby d1_139) rfl zk) ?_
            refine Go.st (T' := s₁) (g' := (mkF m 141 #[.val (.ref b), .val (.int n)] [(.int (5 : Int32)), (.int n)])) (fun _ zk => XS.iconst X0.here hx rfl (hb hby d1_140) zk) ?_
            by_cases hc141 : n = (5 : Int32)
            · refine Go.st (T' := s₁) (g' := (mkF m 144 #[.val (.ref b), .val (.int n)] [])) (fun _ zk => XS.icmpNo X0.here hx rfl (hb hby d1_141) rfl (teq hc141).2 zk) ?_
              obtain ⟨T69, h69, X69, e69, E69, A69, D69, -, st69⟩ := newO X0 hx hZ hown (w7 hw) (w8 hw) (w9 hw) e0 (g := (mkF m 144 #[.val (.ref b), .val (.int n)] [])) rfl (hb hby d1_144) (by decide) (by decide)
              obtain ⟨b69, g69⟩ : ∃ z, z = h0.size := ⟨_, rfl⟩
              rw [← g69] at A69 D69 st69
              have F69_value : Fld Z h69 b69 "java/lang/String" "value" "[B" .null := D69 (Or.inr (w22 hw)) (ty := (.array .byte)) (by decide)
              have F69_coder : Fld Z h69 b69 "java/lang/String" "coder" "B" (.int (0 : Int32)) := D69 (Or.inr (w23 hw)) (ty := .byte) (by decide)
              refine Go.st (T' := T69) (g' := (mkF m 147 #[.val (.ref b), .val (.int n)] [(.ref b69)])) (fun _ zk => st69 _ zk) ?_
              refine Go.st (T' := T69) (g' := (mkF m 148 #[.val (.ref b), .val (.int n)] [(.ref b69), (.ref b69)])) (fun _ zk => XS.dup X69.here hx rfl (hb hby d1_147) rfl rfl zk) ?_
              refine Go.st (T' := T69) (g' := (mkF m 149 #[.val (.ref b), .val (.int n)] [(.int (5 : Int32)), (.ref b69), (.ref b69)])) (fun _ zk => XS.iconst X69.here hx rfl (hb hby d1_148) zk) ?_
              obtain ⟨T70, h70, k70, X70, e70, E70, A70, st70⟩ := newP (aty := .char) X69 hx hZ (w2 hw) e69 (g := (mkF m 149 #[.val (.ref b), .val (.int n)] [(.int (5 : Int32)), (.ref b69), (.ref b69)])) rfl (hb hby d1_149) rfl (by decide) (cap := 5) (by decide) (by decide) (by decide) (by decide)
              obtain ⟨b70, g70⟩ : ∃ z, z = h69.size := ⟨_, rfl⟩
              rw [← g70] at A70 st70
              have V70 : Arv Z h70 b70 k70 .char (5 : Int32) [(.int (0 : Int32)), (.int (0 : Int32)), (.int (0 : Int32)), (.int (0 : Int32)), (.int (0 : Int32))] (.int (0 : Int32)) := (Arv.new A70 (by decide)).pad (pad_rep [] (.int (0 : Int32)) 5)
              refine Go.st (T' := T70) (g' := (mkF m 151 #[.val (.ref b), .val (.int n)] [(.ref b70), (.ref b69), (.ref b69)])) (fun _ zk => st70 _ zk) ?_
              refine Go.st (T' := T70) (g' := (mkF m 152 #[.val (.ref b), .val (.int n)] [(.ref b70), (.ref b70), (.ref b69), (.ref b69)])) (fun _ zk => XS.dup X70.here hx rfl (hb hby d1_151) rfl rfl zk) ?_
              refine Go.st (T' := T70) (g' := (mkF m 153 #[.val (.ref b), .val (.int n)] [(.int (0 : Int32)), (.ref b70), (.ref b70), (.ref b69), (.ref b69)])) (fun _ zk => XS.iconst X70.here hx rfl (hb hby d1_152) zk) ?_
              refine Go.st (T' := T70) (g' := (mkF m 154 #[.val (.ref b), .val (.int n)] [(.ref b), (.int (0 : Int32)), (.ref b70), (.ref b70), (.ref b69), (.ref b69)])) (fun _ zk => XS.aloadN X70.here hx rfl (hb hby d1_153) rfl rfl zk) ?_
              refine Go.st (T' := T70) (g' := (mkF m 155 #[.val (.ref b), .val (.int n)] [(.int (0 : Int32)), (.ref b), (.int (0 : Int32)), (.ref b70), (.ref b70), (.ref b69), (.ref b69)])) (fun _ zk => XS.iconst X70.here hx rfl (hb hby d1_154) zk) ?_
              have xt71 : Ext h0 h70 := (E69.tr E70)
              have f72 := VC.ext xt71
              refine Go.st (T' := T70) (g' := (mkF m 156 #[.val (.ref b), .val (.int n)] [(.int (cs.getD 0 0)), (.int (0 : Int32)), (.ref b70), (.ref b70), (.ref b69), (.ref b69)])) (fun _ zk => ldCV X70 hx hZ e70 f72 (j := (0 : Int32)) ⟨by decide, by decide⟩ (v := (.int (cs.getD 0 0))) (own_getD cs 0) (g := (mkF m 155 #[.val (.ref b), .val (.int n)] [(.int (0 : Int32)), (.ref b), (.int (0 : Int32)), (.ref b70), (.ref b70), (.ref b69), (.ref b69)])) rfl (rest := [(.int (0 : Int32)), (.ref b70), (.ref b70), (.ref b69), (.ref b69)]) rfl (hb hby d1_155) zk) ?_
              obtain ⟨T73, h73, X73, e73, W73, V73, st73⟩ := stCV X70 hx hZ e70 V70 (j := (0 : Int32)) (i := 0) (by decide) rfl (Nat.le_of_ble_eq_true rfl) (g := (mkF m 156 #[.val (.ref b), .val (.int n)] [(.int (cs.getD 0 0)), (.int (0 : Int32)), (.ref b70), (.ref b70), (.ref b69), (.ref b69)])) rfl rfl (hb hby d1_156)
              rw [nar_cid (x := cs.getD 0 0) (own_rg hr hcs (by decide))] at V73
              have V73' : Arv Z h73 b70 k70 .char (5 : Int32) [(.int (cs.getD 0 0)), (.int (0 : Int32)), (.int (0 : Int32)), (.int (0 : Int32)), (.int (0 : Int32))] (.int (0 : Int32)) := V73
              have N73 := Fr.snoc X73 N0 (Nat.le_trans Z0 (Nat.le_trans E69.1 (Nat.le_of_eq g70.symm)))
              refine Go.st (T' := T73) (g' := (mkF m 157 #[.val (.ref b), .val (.int n)] [(.ref b70), (.ref b69), (.ref b69)])) (fun _ zk => st73 _ zk) ?_
              refine Go.st (T' := T73) (g' := (mkF m 158 #[.val (.ref b), .val (.int n)] [(.ref b70), (.ref b70), (.ref b69), (.ref b69)])) (fun _ zk => XS.dup X73.here hx rfl (hb hby d1_157) rfl rfl zk) ?_
              refine Go.st (T' := T73) (g' := (mkF m 159 #[.val (.ref b), .val (.int n)] [(.int (1 : Int32)), (.ref b70), (.ref b70), (.ref b69), (.ref b69)])) (fun _ zk => XS.iconst X73.here hx rfl (hb hby d1_158) zk) ?_
              refine Go.st (T' := T73) (g' := (mkF m 160 #[.val (.ref b), .val (.int n)] [(.ref b), (.int (1 : Int32)), (.ref b70), (.ref b70), (.ref b69), (.ref b69)])) (fun _ zk => XS.aloadN X73.here hx rfl (hb hby d1_159) rfl rfl zk) ?_
              refine Go.st (T' := T73) (g' := (mkF m 161 #[.val (.ref b), .val (.int n)] [(.int (1 : Int32)), (.ref b), (.int (1 : Int32)), (.ref b70), (.ref b70), (.ref b69), (.ref b69)])) (fun _ zk => XS.iconst X73.here hx rfl (hb hby d1_160) zk) ?_
              have f74 := (f72.other W73 (ne_lt VC.lt E69.1 (Nat.le_of_eq g70.symm)))
              refine Go.st (T' := T73) (g' := (mkF m 162 #[.val (.ref b), .val (.int n)] [(.int (cs.getD 1 0)), (.int (1 : Int32)), (.ref b70), (.ref b70), (.ref b69), (.ref b69)])) (fun _ zk => ldCV X73 hx hZ e73 f74 (j := (1 : Int32)) ⟨by decide, by decide⟩ (v := (.int (cs.getD 1 0))) (own_getD cs 1) (g := (mkF m 161 #[.val (.ref b), .val (.int n)] [(.int (1 : Int32)), (.ref b), (.int (1 : Int32)), (.ref b70), (.ref b70), (.ref b69), (.ref b69)])) rfl (rest := [(.int (1 : Int32)), (.ref b70), (.ref b70), (.ref b69), (.ref b69)]) rfl (hb hby d1_161) zk) ?_
              obtain ⟨T75, h75, X75, e75, W75, V75, st75⟩ := stCV X73 hx hZ e73 V73' (j := (1 : Int32)) (i := 1) (by decide) rfl (Nat.le_of_ble_eq_true rfl) (g := (mkF m 162 #[.val (.ref b), .val (.int n)] [(.int (cs.getD 1 0)), (.int (1 : Int32)), (.ref b70), (.ref b70), (.ref b69), (.ref b69)])) rfl rfl (hb hby d1_162)
              rw [nar_cid (x := cs.getD 1 0) (own_rg hr hcs (by decide))] at V75
              have V75' : Arv Z h75 b70 k70 .char (5 : Int32) [(.int (cs.getD 0 0)), (.int (cs.getD 1 0)), (.int (0 : Int32)), (.int (0 : Int32)), (.int (0 : Int32))] (.int (0 : Int32)) := V75
              have N75 := Fr.snoc X75 N73 (Nat.le_trans Z0 (Nat.le_trans E69.1 (Nat.le_of_eq g70.symm)))
              refine Go.st (T' := T75) (g' := (mkF m 163 #[.val (.ref b), .val (.int n)] [(.ref b70), (.ref b69), (.ref b69)])) (fun _ zk => st75 _ zk) ?_
              refine Go.st (T' := T75) (g' := (mkF m 164 #[.val (.ref b), .val (.int n)] [(.ref b70), (.ref b70), (.ref b69), (.ref b69)])) (fun _ zk => XS.dup X75.here hx rfl (hb hby d1_163) rfl rfl zk) ?_
              refine Go.st (T' := T75) (g' := (mkF m 165 #[.val (.ref b), .val (.int n)] [(.int (2 : Int32)), (.ref b70), (.ref b70), (.ref b69), (.ref b69)])) (fun _ zk => XS.iconst X75.here hx rfl (hb hby d1_164) zk) ?_
              refine Go.st (T' := T75) (g' := (mkF m 166 #[.val (.ref b), .val (.int n)] [(.ref b), (.int (2 : Int32)), (.ref b70), (.ref b70), (.ref b69), (.ref b69)])) (fun _ zk => XS.aloadN X75.here hx rfl (hb hby d1_165) rfl rfl zk) ?_
              refine Go.st (T' := T75) (g' := (mkF m 167 #[.val (.ref b), .val (.int n)] [(.int (2 : Int32)), (.ref b), (.int (2 : Int32)), (.ref b70), (.ref b70), (.ref b69), (.ref b69)])) (fun _ zk => XS.iconst X75.here hx rfl (hb hby d1_166) zk) ?_
              have f76 := (f74.other W75 (ne_lt VC.lt E69.1 (Nat.le_of_eq g70.symm)))
              refine Go.st (T' := T75) (g' := (mkF m 168 #[.val (.ref b), .val (.int n)] [(.int (cs.getD 2 0)), (.int (2 : Int32)), (.ref b70), (.ref b70), (.ref b69), (.ref b69)])) (fun _ zk => ldCV X75 hx hZ e75 f76 (j := (2 : Int32)) ⟨by decide, by decide⟩ (v := (.int (cs.getD 2 0))) (own_getD cs 2) (g := (mkF m 167 #[.val (.ref b), .val (.int n)] [(.int (2 : Int32)), (.ref b), (.int (2 : Int32)), (.ref b70), (.ref b70), (.ref b69), (.ref b69)])) rfl (rest := [(.int (2 : Int32)), (.ref b70), (.ref b70), (.ref b69), (.ref b69)]) rfl (hb hby d1_167) zk) ?_
              obtain ⟨T77, h77, X77, e77, W77, V77, st77⟩ := stCV X75 hx hZ e75 V75' (j := (2 : Int32)) (i := 2) (by decide) rfl (Nat.le_of_ble_eq_true rfl) (g := (mkF m 168 #[.val (.ref b), .val (.int n)] [(.int (cs.getD 2 0)), (.int (2 : Int32)), (.ref b70), (.ref b70), (.ref b69), (.ref b69)])) rfl rfl (hb hby d1_168)
              rw [nar_cid (x := cs.getD 2 0) (own_rg hr hcs (by decide))] at V77
              have V77' : Arv Z h77 b70 k70 .char (5 : Int32) [(.int (cs.getD 0 0)), (.int (cs.getD 1 0)), (.int (cs.getD 2 0)), (.int (0 : Int32)), (.int (0 : Int32))] (.int (0 : Int32)) := V77
              have N77 := Fr.snoc X77 N75 (Nat.le_trans Z0 (Nat.le_trans E69.1 (Nat.le_of_eq g70.symm)))
              refine Go.st (T' := T77) (g' := (mkF m 169 #[.val (.ref b), .val (.int n)] [(.ref b70), (.ref b69), (.ref b69)])) (fun _ zk => st77 _ zk) ?_
              refine Go.st (T' := T77) (g' := (mkF m 170 #[.val (.ref b), .val (.int n)] [(.ref b70), (.ref b70), (.ref b69), (.ref b69)])) (fun _ zk => XS.dup X77.here hx rfl (hb hby d1_169) rfl rfl zk) ?_
              refine Go.st (T' := T77) (g' := (mkF m 171 #[.val (.ref b), .val (.int n)] [(.int (3 : Int32)), (.ref b70), (.ref b70), (.ref b69), (.ref b69)])) (fun _ zk => XS.iconst X77.here hx rfl (hb hby d1_170) zk) ?_
              refine Go.st (T' := T77) (g' := (mkF m 172 #[.val (.ref b), .val (.int n)] [(.ref b), (.int (3 : Int32)), (.ref b70), (.ref b70), (.ref b69), (.ref b69)])) (fun _ zk => XS.aloadN X77.here hx rfl (hb hby d1_171) rfl rfl zk) ?_
              refine Go.st (T' := T77) (g' := (mkF m 173 #[.val (.ref b), .val (.int n)] [(.int (3 : Int32)), (.ref b), (.int (3 : Int32)), (.ref b70), (.ref b70), (.ref b69), (.ref b69)])) (fun _ zk => XS.iconst X77.here hx rfl (hb hby d1_172) zk) ?_
              have f78 := (f76.other W77 (ne_lt VC.lt E69.1 (Nat.le_of_eq g70.symm)))
              refine Go.st (T' := T77) (g' := (mkF m 174 #[.val (.ref b), .val (.int n)] [(.int (cs.getD 3 0)), (.int (3 : Int32)), (.ref b70), (.ref b70), (.ref b69), (.ref b69)])) (fun _ zk => ldCV X77 hx hZ e77 f78 (j := (3 : Int32)) ⟨by decide, by decide⟩ (v := (.int (cs.getD 3 0))) (own_getD cs 3) (g := (mkF m 173 #[.val (.ref b), .val (.int n)] [(.int (3 : Int32)), (.ref b), (.int (3 : Int32)), (.ref b70), (.ref b70), (.ref b69), (.ref b69)])) rfl (rest := [(.int (3 : Int32)), (.ref b70), (.ref b70), (.ref b69), (.ref b69)]) rfl (hb hby d1_173) zk) ?_
              obtain ⟨T79, h79, X79, e79, W79, V79, st79⟩ := stCV X77 hx hZ e77 V77' (j := (3 : Int32)) (i := 3) (by decide) rfl (Nat.le_of_ble_eq_true rfl) (g := (mkF m 174 #[.val (.ref b), .val (.int n)] [(.int (cs.getD 3 0)), (.int (3 : Int32)), (.ref b70), (.ref b70), (.ref b69), (.ref b69)])) rfl rfl (hb hby d1_174)
              rw [nar_cid (x := cs.getD 3 0) (own_rg hr hcs (by decide))] at V79
              have V79' : Arv Z h79 b70 k70 .char (5 : Int32) [(.int (cs.getD 0 0)), (.int (cs.getD 1 0)), (.int (cs.getD 2 0)), (.int (cs.getD 3 0)), (.int (0 : Int32))] (.int (0 : Int32)) := V79
              have N79 := Fr.snoc X79 N77 (Nat.le_trans Z0 (Nat.le_trans E69.1 (Nat.le_of_eq g70.symm)))
              refine Go.st (T' := T79) (g' := (mkF m 175 #[.val (.ref b), .val (.int n)] [(.ref b70), (.ref b69), (.ref b69)])) (fun _ zk => st79 _ zk) ?_
              refine Go.st (T' := T79) (g' := (mkF m 176 #[.val (.ref b), .val (.int n)] [(.ref b70), (.ref b70), (.ref b69), (.ref b69)])) (fun _ zk => XS.dup X79.here hx rfl (hb hby d1_175) rfl rfl zk) ?_
              refine Go.st (T' := T79) (g' := (mkF m 177 #[.val (.ref b), .val (.int n)] [(.int (4 : Int32)), (.ref b70), (.ref b70), (.ref b69), (.ref b69)])) (fun _ zk => XS.iconst X79.here hx rfl (hb hby d1_176) zk) ?_
              refine Go.st (T' := T79) (g' := (mkF m 178 #[.val (.ref b), .val (.int n)] [(.ref b), (.int (4 : Int32)), (.ref b70), (.ref b70), (.ref b69), (.ref b69)])) (fun _ zk => XS.aloadN X79.here hx rfl (hb hby d1_177) rfl rfl zk) ?_
              refine Go.st (T' := T79) (g' := (mkF m 179 #[.val (.ref b), .val (.int n)] [(.int (4 : Int32)), (.ref b), (.int (4 : Int32)), (.ref b70), (.ref b70), (.ref b69), (.ref b69)])) (fun _ zk => XS.iconst X79.here hx rfl (hb hby d1_178) zk) ?_
              have f80 := (f78.other W79 (ne_lt VC.lt E69.1 (Nat.le_of_eq g70.symm)))
              refine Go.st (T' := T79) (g' := (mkF m 180 #[.val (.ref b), .val (.int n)] [(.int (cs.getD 4 0)), (.int (4 : Int32)), (.ref b70), (.ref b70), (.ref b69), (.ref b69)])) (fun _ zk => ldCV X79 hx hZ e79 f80 (j := (4 : Int32)) ⟨by decide, by decide⟩ (v := (.int (cs.getD 4 0))) (own_getD cs 4) (g := (mkF m 179 #[.val (.ref b), .val (.int n)] [(.int (4 : Int32)), (.ref b), (.int (4 : Int32)), (.ref b70), (.ref b70), (.ref b69), (.ref b69)])) rfl (rest := [(.int (4 : Int32)), (.ref b70), (.ref b70), (.ref b69), (.ref b69)]) rfl (hb hby d1_179) zk) ?_
              obtain ⟨T81, h81, X81, e81, W81, V81, st81⟩ := stCV X79 hx hZ e79 V79' (j := (4 : Int32)) (i := 4) (by decide) rfl (Nat.le_of_ble_eq_true rfl) (g := (mkF m 180 #[.val (.ref b), .val (.int n)] [(.int (cs.getD 4 0)), (.int (4 : Int32)), (.ref b70), (.ref b70), (.ref b69), (.ref b69)])) rfl rfl (hb hby d1_180)
              rw [nar_cid (x := cs.getD 4 0) (own_rg hr hcs (by decide))] at V81
              have V81' : Arv Z h81 b70 k70 .char (5 : Int32) [(.int (cs.getD 0 0)), (.int (cs.getD 1 0)), (.int (cs.getD 2 0)), (.int (cs.getD 3 0)), (.int (cs.getD 4 0))] (.int (0 : Int32)) := V81
              have N81 := Fr.snoc X81 N79 (Nat.le_trans Z0 (Nat.le_trans E69.1 (Nat.le_of_eq g70.symm)))
              refine Go.st (T' := T81) (g' := (mkF m 181 #[.val (.ref b), .val (.int n)] [(.ref b70), (.ref b69), (.ref b69)])) (fun _ zk => st81 _ zk) ?_
              have hrg : ∀ x ∈ [(cs.getD 0 0), (cs.getD 1 0), (cs.getD 2 0), (cs.getD 3 0), (cs.getD 4 0)], 0 ≤ x.toInt ∧ x.toInt < 65536 := by
                simp only [List.forall_mem_cons]
                exact ⟨own_rg hr hcs (by decide), own_rg hr hcs (by decide), own_rg hr hcs (by decide), own_rg hr hcs (by decide), own_rg hr hcs (by decide), fun _ q => nomatch q⟩
              have xt82 : Ext h69 h81 := (((((E70.thenW W73 (Nat.le_of_eq g70.symm)).thenW W75 (Nat.le_of_eq g70.symm)).thenW W77 (Nat.le_of_eq g70.symm)).thenW W79 (Nat.le_of_eq g70.symm)).thenW W81 (Nat.le_of_eq g70.symm))
              have f83 := A69.ext xt82
              have f84 := F69_coder.ext xt82
              have f85 := F69_value.ext xt82
              have xt87 : Ext h0 h81 := (((((xt71.thenW W73 (Nat.le_trans E69.1 (Nat.le_of_eq g70.symm))).thenW W75 (Nat.le_trans E69.1 (Nat.le_of_eq g70.symm))).thenW W77 (Nat.le_trans E69.1 (Nat.le_of_eq g70.symm))).thenW W79 (Nat.le_trans E69.1 (Nat.le_of_eq g70.symm))).thenW W81 (Nat.le_trans E69.1 (Nat.le_of_eq g70.symm)))
              have f88 := O0.ext xt87
              refine Go.callSp (y := (⟨"java/lang/String", "<init>", "([C)V"⟩ : MethodName)) (a := b69) X81 hx hZ hown e81 rfl (w10 hw) (w11 hw) (w9 hw) (w12 hw) (by decide) (argsL := [(.ref b70)]) (rest := [(.ref b69)]) (W := 1) (rm_init1W l Z a0 hw [] b69 b70 k70 [(cs.getD 0 0), (cs.getD 1 0), (cs.getD 2 0), (cs.getD 3 0), (cs.getD 4 0)] 5 zc h81 n0 (Nat.le_trans Z0 (Nat.le_trans (Nat.le_trans (Nat.le_trans (Nat.le_trans (Nat.le_trans (Nat.le_trans E69.1 E70.1) (Keep.of_wr W73).1) (Keep.of_wr W75).1) (Keep.of_wr W77).1) (Keep.of_wr W79).1) (Keep.of_wr W81).1)) f88 f83 (Nat.le_trans Z0 (Nat.le_trans (Nat.le_refl _) (Nat.le_of_eq g69.symm))) f84 f85 V81' (by decide) rfl (by decide) (by decide) hrg CS hz UA UH UL) rfl (lenOf pd25 rfl) rfl (by rw [hml]; rfl) rfl (by show 2 * 0 + _ ≤ _; exact Nat.le_of_eq rfl) (by decide) (by decide) (by decide) (by decide) (hb hby d1_181) ?_
              intro v86 T86 h86 L86 X86 e86 q86
              obtain ⟨hv86, Nf86, K86, SC⟩ := q86
              subst hv86
              have N86 := Fr.app N81 Nf86
              show Go p.tables e below _ T86 (mkF m 184 #[.val (.ref b), .val (.int n)] [(.ref b69)])
              have xt89 : Ext h0 h86 := (xt87.thenK K86 (allS (P := fun x => h0.size ≤ x) (Nat.le_of_eq g69.symm) all0))
              have cr90 := chrE hA xt89
              refine Go.retAS X86 hx hlk hS (Nat.le_trans (Nat.zero_le _) (Nat.le_trans (Nat.le_trans (Nat.le_trans (Nat.le_trans (Nat.le_trans (Nat.le_trans (Nat.le_trans E69.1 E70.1) (Keep.of_wr W73).1) (Keep.of_wr W75).1) (Keep.of_wr W77).1) (Keep.of_wr W79).1) (Keep.of_wr W81).1) K86.1)) cr90 hZ hEL hret rfl rfl (hb hby d1_184) (by decide) (by decide) e86 ?_
              exact ⟨_, [(cs.getD 0 0), (cs.getD 1 0), (cs.getD 2 0), (cs.getD 3 0), (cs.getD 4 0)], rfl, N86, xt89, (Nat.le_trans (Nat.le_refl _) (Nat.le_of_eq g69.symm)), Nat.le_of_ble_eq_true rfl, hrg, SC⟩
            · refine Go.st (T' := s₁) (g' := (mkF m 185 #[.val (.ref b), .val (.int n)] [])) (fun _ zk => XS.icmpYes X0.here hx rfl (pc0 := 141) (pc' := 185) rfl (hb hby d1_141) rfl (feq hc141).2 (by decide) (by decide) zk) ?_
              refine Go.st (T' := s₁) (g' := (mkF m 186 #[.val (.ref b), .val (.int n)] [(.int n)])) (fun _ zk => XS.iloadN X0.here hx rfl (hb hby d1_185) rfl zk) ?_
              refine Go.st (T' := s₁) (g' := (mkF m 188 #[.val (.ref b), .val (.int n)] [(.int (6 : Int32)), (.int n)])) (fun _ zk => XS.bipush X0.here hx rfl (hb hby d1_186) zk) ?_
              by_cases hc188 : n = (6 : Int32)
              · refine Go.st (T' := s₁) (g' := (mkF m 191 #[.val (.ref b), .val (.int n)] [])) (fun _ zk => XS.icmpNo X0.here hx rfl (hb hby d1_188) rfl (teq hc188).2 zk) ?_
                obtain ⟨T91, h91, X91, e91, E91, A91, D91, -, st91⟩ := newO X0 hx hZ hown (w7 hw) (w8 hw) (w9 hw) e0 (g := (mkF m 191 #[.val (.ref b), .val (.int n)] [])) rfl (hb hby d1_191) (by decide) (by decide)
                obtain ⟨b91, g91⟩ : ∃ z, z = h0.size := ⟨_, rfl⟩
                rw [← g91] at A91 D91 st91
                have F91_value : Fld Z h91 b91 "java/lang/String" "value" "[B" .null := D91 (Or.inr (w22 hw)) (ty := (.array .byte)) (by decide)
                have F91_coder : Fld Z h91 b91 "java/lang/String" "coder" "B" (.int (0 : Int32)) := D91 (Or.inr (w23 hw)) (ty := .byte) (by decide)
                refine Go.st (T' := T91) (g' := (mkF m 194 #[.val (.ref b), .val (.int n)] [(.ref b91)])) (fun _ zk => st91 _ zk) ?_
                refine Go.st (T' := T91) (g' := (mkF m 195 #[.val (.ref b), .val (.int n)] [(.ref b91), (.ref b91)])) (fun _ zk => XS.dup X91.here hx rfl (hb hby d1_194) rfl rfl zk) ?_
                refine Go.st (T' := T91) (g' := (mkF m 197 #[.val (.ref b), .val (.int n)] [(.int (6 : Int32)), (.ref b91), (.ref b91)])) (fun _ zk => XS.bipush X91.here hx rfl (hb hby d1_195) zk) ?_
                obtain ⟨T92, h92, k92, X92, e92, E92, A92, st92⟩ := newP (aty := .char) X91 hx hZ (w2 hw) e91 (g := (mkF m 197 #[.val (.ref b), .val (.int n)] [(.int (6 : Int32)), (.ref b91), (.ref b91)])) rfl (hb hby d1_197) rfl (by decide) (cap := 6) (by decide) (by decide) (by decide) (by decide)
                obtain ⟨b92, g92⟩ : ∃ z, z = h91.size := ⟨_, rfl⟩
                rw [← g92] at A92 st92
                have V92 : Arv Z h92 b92 k92 .char (6 : Int32) [(.int (0 : Int32)), (.int (0 : Int32)), (.int (0 : Int32)), (.int (0 : Int32)), (.int (0 : Int32)), (.int (0 : Int32))] (.int (0 : Int32)) := (Arv.new A92 (by decide)).pad (pad_rep [] (.int (0 : Int32)) 6)
                refine Go.st (T' := T92) (g' := (mkF m 199 #[.val (.ref b), .val (.int n)] [(.ref b92), (.ref b91), (.ref b91)])) (fun _ zk => st92 _ zk) ?_
                refine Go.st (T' := T92) (g' := (mkF m 200 #[.val (.ref b), .val (.int n)] [(.ref b92), (.ref b92), (.ref b91), (.ref b91)])) (fun _ zk => XS.dup X92.here hx rfl (hb hby d1_199) rfl rfl zk) ?_
                refine Go.st (T' := T92) (g' := (mkF m 201 #[.val (.ref b), .val (.int n)] [(.int (0 : Int32)), (.ref b92), (.ref b92), (.ref b91), (.ref b91)])) (fun _ zk => XS.iconst X92.here hx rfl (hb hby d1_200) zk) ?_
                refine Go.st (T' := T92) (g' := (mkF m 202 #[.val (.ref b), .val (.int n)] [(.ref b), (.int (0 : Int32)), (.ref b92), (.ref b92), (.ref b91), (.ref b91)])) (fun _ zk => XS.aloadN X92.here hx rfl (hb hby d1_201) rfl rfl zk) ?_
                refine Go.st (T' := T92) (g' := (mkF m 203 #[.val (.ref b), .val (.int n)] [(.int (0 : Int32)), (.ref b), (.int (0 : Int32)), (.ref b92), (.ref b92), (.ref b91), (.ref b91)])) (fun _ zk => XS.iconst X92.here hx rfl (hb hby d1_202) zk) ?_
                have xt93 : Ext h0 h92 := (E91.tr E92)
                have f94 := VC.ext xt93
                refine Go.st (T' := T92) (g' := (mkF m 204 #[.val (.ref b), .val (.int n)] [(.int (cs.getD 0 0)), (.int (0 : Int32)), (.ref b92), (.ref b92), (.ref b91), (.ref b91)])) (fun _ zk => ldCV X92 hx hZ e92 f94 (j := (0 : Int32)) ⟨by decide, by decide⟩ (v := (.int (cs.getD 0 0))) (own_getD cs 0) (g := (mkF m 203 #[.val (.ref b), .val (.int n)] [(.int (0 : Int32)), (.ref b), (.int (0 : Int32)), (.ref b92), (.ref b92), (.ref b91), (.ref b91)])) rfl (rest := [(.int (0 : Int32)), (.ref b92), (.ref b92), (.ref b91), (.ref b91)]) rfl (hb hby d1_203) zk) ?_
                obtain ⟨T95, h95, X95, e95, W95, V95, st95⟩ := stCV X92 hx hZ e92 V92 (j := (0 : Int32)) (i := 0) (by decide) rfl (Nat.le_of_ble_eq_true rfl) (g := (mkF m 204 #[.val (.ref b), .val (.int n)] [(.int (cs.getD 0 0)), (.int (0 : Int32)), (.ref b92), (.ref b92), (.ref b91), (.ref b91)])) rfl rfl (hb hby d1_204)
                rw [nar_cid (x := cs.getD 0 0) (own_rg hr hcs (by decide))] at V95
                have V95' : Arv Z h95 b92 k92 .char (6 : Int32) [(.int (cs.getD 0 0)), (.int (0 : Int32)), (.int (0 : Int32)), (.int (0 : Int32)), (.int (0 : Int32)), (.int (0 : Int32))] (.int (0 : Int32)) := V95
                have N95 := Fr.snoc X95 N0 (Nat.le_trans Z0 (Nat.le_trans E91.1 (Nat.le_of_eq g92.symm)))
                refine Go.st (T' := T95) (g' := (mkF m 205 #[.val (.ref b), .val (.int n)] [(.ref b92), (.ref b91), (.ref b91)])) (fun _ zk => st95 _ zk) ?_
                refine Go.st (T' := T95) (g' := (mkF m 206 #[.val (.ref b), .val (.int n)] [(.ref b92), (.ref b92), (.ref b91), (.ref b91)])) (fun _ zk => XS.dup X95.here hx rfl (hb hby d1_205) rfl rfl zk) ?_
                refine Go.st (T' := T95) (g' := (mkF m 207 #[.val (.ref b), .val (.int n)] [(.int (1 : Int32)), (.ref b92), (.ref b92), (.ref b91), (.ref b91)])) (fun _ zk => XS.iconst X95.here hx rfl (hb hby d1_206) zk) ?_
                refine Go.st (T' := T95) (g' := (mkF m 208 #[.val (.ref b), .val (.int n)] [(.ref b), (.int (1 : Int32)), (.ref b92), (.ref b92), (.ref b91), (.ref b91)])) (fun _ zk => XS.aloadN X95.here hx rfl (hb hby d1_207) rfl rfl zk) ?_
                refine Go.st (T' := T95) (g' := (mkF m 209 #[.val (.ref b), .val (.int n)] [(.int (1 : Int32)), (.ref b), (.int (1 : Int32)), (.ref b92), (.ref b92), (.ref b91), (.ref b91)])) (fun _ zk => XS.iconst X95.here hx rfl (hb hby d1_208) zk) ?_
                have f96 := (f94.other W95 (ne_lt VC.lt E91.1 (Nat.le_of_eq g92.symm)))
                refine Go.st (T' := T95) (g' := (mkF m 210 #[.val (.ref b), .val (.int n)] [(.int (cs.getD 1 0)), (.int (1 : Int32)), (.ref b92), (.ref b92), (.ref b91), (.ref b91)])) (fun _ zk => ldCV X95 hx hZ e95 f96 (j := (1 : Int32)) ⟨by decide, by decide⟩ (v := (.int (cs.getD 1 0))) (own_getD cs 1) (g := (mkF m 209 #[.val (.ref b), .val (.int n)] [(.int (1 : Int32)), (.ref b), (.int (1 : Int32)), (.ref b92), (.ref b92), (.ref b91), (.ref b91)])) rfl (rest := [(.int (1 : Int32)), (.ref b92), (.ref b92), (.ref b91), (.ref b91)]) rfl (hb hby d1_209) zk) ?_
                obtain ⟨T97, h97, X97, e97, W97, V97, st97⟩ := stCV X95 hx hZ e95 V95' (j := (1 : Int32)) (i := 1) (by decide) rfl (Nat.le_of_ble_eq_true rfl) (g := (mkF m 210 #[.val (.ref b), .val (.int n)] [(.int (cs.getD 1 0)), (.int (1 : Int32)), (.ref b92), (.ref b92), (.ref b91), (.ref b91)])) rfl rfl (hb hby d1_210)
                rw [nar_cid (x := cs.getD 1 0) (own_rg hr hcs (by decide))] at V97
                have V97' : Arv Z h97 b92 k92 .char (6 : Int32) [(.int (cs.getD 0 0)), (.int (cs.getD 1 0)), (.int (0 : Int32)), (.int (0 : Int32)), (.int (0 : Int32)), (.int (0 : Int32))] (.int (0 : Int32)) := V97
                have N97 := Fr.snoc X97 N95 (Nat.le_trans Z0 (Nat.le_trans E91.1 (Nat.le_of_eq g92.symm)))
                refine Go.st (T' := T97) (g' := (mkF m 211 #[.val (.ref b), .val (.int n)] [(.ref b92), (.ref b91), (.ref b91)])) (fun _ zk => st97 _ zk) ?_
                refine Go.st (T' := T97) (g' := (mkF m 212 #[.val (.ref b), .val (.int n)] [(.ref b92), (.ref b92), (.ref b91), (.ref b91)])) (fun _ zk => XS.dup X97.here hx rfl (hb hby d1_211) rfl rfl zk) ?_
                refine Go.st (T' := T97) (g' := (mkF m 213 #[.val (.ref b), .val (.int n)] [(.int (2 : Int32)), (.ref b92), (.ref b92), (.ref b91), (.ref b91)])) (fun _ zk => XS.iconst X97.here hx rfl (hb hby d1_212) zk) ?_
                refine Go.st (T' := T97) (g' := (mkF m 214 #[.val (.ref b), .val (.int n)] [(.ref b), (.int (2 : Int32)), (.ref b92), (.ref b92), (.ref b91), (.ref b91)])) (fun _ zk => XS.aloadN X97.here hx rfl (hb hby d1_213) rfl rfl zk) ?_
                refine Go.st (T' := T97) (g' := (mkF m 215 #[.val (.ref b), .val (.int n)] [(.int (2 : Int32)), (.ref b), (.int (2 : Int32)), (.ref b92), (.ref b92), (.ref b91), (.ref b91)])) (fun _ zk => XS.iconst X97.here hx rfl (hb hby d1_214) zk) ?_
                have f98 := (f96.other W97 (ne_lt VC.lt E91.1 (Nat.le_of_eq g92.symm)))
                refine Go.st (T' := T97) (g' := (mkF m 216 #[.val (.ref b), .val (.int n)] [(.int (cs.getD 2 0)), (.int (2 : Int32)), (.ref b92), (.ref b92), (.ref b91), (.ref b91)])) (fun _ zk => ldCV X97 hx hZ e97 f98 (j := (2 : Int32)) ⟨by decide, by decide⟩ (v := (.int (cs.getD 2 0))) (own_getD cs 2) (g := (mkF m 215 #[.val (.ref b), .val (.int n)] [(.int (2 : Int32)), (.ref b), (.int (2 : Int32)), (.ref b92), (.ref b92), (.ref b91), (.ref b91)])) rfl (rest := [(.int (2 : Int32)), (.ref b92), (.ref b92), (.ref b91), (.ref b91)]) rfl (hb hby d1_215) zk) ?_
                obtain ⟨T99, h99, X99, e99, W99, V99, st99⟩ := stCV X97 hx hZ e97 V97' (j := (2 : Int32)) (i := 2) (by decide) rfl (Nat.le_of_ble_eq_true rfl) (g := (mkF m 216 #[.val (.ref b), .val (.int n)] [(.int (cs.getD 2 0)), (.int (2 : Int32)), (.ref b92), (.ref b92), (.ref b91), (.ref b91)])) rfl rfl (hb hby d1_216)
                rw [nar_cid (x := cs.getD 2 0) (own_rg hr hcs (by decide))] at V99
                have V99' : Arv Z h99 b92 k92 .char (6 : Int32) [(.int (cs.getD 0 0)), (.int (cs.getD 1 0)), (.int (cs.getD 2 0)), (.int (0 : Int32)), (.int (0 : Int32)), (.int (0 : Int32))] (.int (0 : Int32)) := V99
                have N99 := Fr.snoc X99 N97 (Nat.le_trans Z0 (Nat.le_trans E91.1 (Nat.le_of_eq g92.symm)))
                refine Go.st (T' := T99) (g' := (mkF m 217 #[.val (.ref b), .val (.int n)] [(.ref b92), (.ref b91), (.ref b91)])) (fun _ zk => st99 _ zk) ?_
                refine Go.st (T' := T99) (g' := (mkF m 218 #[.val (.ref b), .val (.int n)] [(.ref b92), (.ref b92), (.ref b91), (.ref b91)])) (fun _ zk => XS.dup X99.here hx rfl (hb hby d1_217) rfl rfl zk) ?_
                refine Go.st (T' := T99) (g' := (mkF m 219 #[.val (.ref b), .val (.int n)] [(.int (3 : Int32)), (.ref b92), (.ref b92), (.ref b91), (.ref b91)])) (fun _ zk => XS.iconst X99.here hx rfl (hb hby d1_218) zk) ?_
                refine Go.st (T' := T99) (g' := (mkF m 220 #[.val (.ref b), .val (.int n)] [(.ref b), (.int (3 : Int32)), (.ref b92), (.ref b92), (.ref b91), (.ref b91)])) (fun _ zk => XS.aloadN X99.here hx rfl (hb hby d1_219) rfl rfl zk) ?_
                refine Go.st (T' := T99) (g' := (mkF m 221 #[.val (.ref b), .val (.int n)] [(.int (3 : Int32)), (.ref b), (.int (3 : Int32)), (.ref b92), (.ref b92), (.ref b91), (.ref b91)])) (fun _ zk => XS.iconst X99.here hx rfl (hb hby d1_220) zk) ?_
                have f100 := (f98.other W99 (ne_lt VC.lt E91.1 (Nat.le_of_eq g92.symm)))
                refine Go.st (T' := T99) (g' := (mkF m 222 #[.val (.ref b), .val (.int n)] [(.int (cs.getD 3 0)), (.int (3 : Int32)), (.ref b92), (.ref b92), (.ref b91), (.ref b91)])) (fun _ zk => ldCV X99 hx hZ e99 f100 (j := (3 : Int32)) ⟨by decide, by decide⟩ (v := (.int (cs.getD 3 0))) (own_getD cs 3) (g := (mkF m 221 #[.val (.ref b), .val (.int n)] [(.int (3 : Int32)), (.ref b), (.int (3 : Int32)), (.ref b92), (.ref b92), (.ref b91), (.ref b91)])) rfl (rest := [(.int (3 : Int32)), (.ref b92), (.ref b92), (.ref b91), (.ref b91)]) rfl (hb hby d1_221) zk) ?_
                obtain ⟨T101, h101, X101, e101, W101, V101, st101⟩ := stCV X99 hx hZ e99 V99' (j := (3 : Int32)) (i := 3) (by decide) rfl (Nat.le_of_ble_eq_true rfl) (g := (mkF m 222 #[.val (.ref b), .val (.int n)] [(.int (cs.getD 3 0)), (.int (3 : Int32)), (.ref b92), (.ref b92), (.ref b91), (.ref b91)])) rfl rfl (hb hby d1_222)
                rw [nar_cid (x := cs.getD 3 0) (own_rg hr hcs (by decide))] at V101
                have V101' : Arv Z h101 b92 k92 .char (6 : Int32) [(.int (cs.getD 0 0)), (.int (cs.getD 1 0)), (.int (cs.getD 2 0)), (.int (cs.getD 3 0)), (.int (0 : Int32)), (.int (0 : Int32))] (.int (0 : Int32)) := V101
                have N101 := Fr.snoc X101 N99 (Nat.le_trans Z0 (Nat.le_trans E91.1 (Nat.le_of_eq g92.symm)))
                refine Go.st (T' := T101) (g' := (mkF m 223 #[.val (.ref b), .val (.int n)] [(.ref b92), (.ref b91), (.ref b91)])) (fun _ zk => st101 _ zk) ?_
                refine Go.st (T' := T101) (g' := (mkF m 224 #[.val (.ref b), .val (.int n)] [(.ref b92), (.ref b92), (.ref b91), (.ref b91)])) (fun _ zk => XS.dup X101.here hx rfl (hb hby d1_223) rfl rfl zk) ?_
                refine Go.st (T' := T101) (g' := (mkF m 225 #[.val (.ref b), .val (.int n)] [(.int (4 : Int32)), (.ref b92), (.ref b92), (.ref b91), (.ref b91)])) (fun _ zk => XS.iconst X101.here hx rfl (hb hby d1_224) zk) ?_
                refine Go.st (T' := T101) (g' := (mkF m 226 #[.val (.ref b), .val (.int n)] [(.ref b), (.int (4 : Int32)), (.ref b92), (.ref b92), (.ref b91), (.ref b91)])) (fun _ zk => XS.aloadN X101.here hx rfl (hb hby d1_225) rfl rfl zk) ?_
                refine Go.st (T' := T101) (g' := (mkF m 227 #[.val (.ref b), .val (.int n)] [(.int (4 : Int32)), (.ref b), (.int (4 : Int32)), (.ref b92), (.ref b92), (.ref b91), (.ref b91)])) (fun _ zk => XS.iconst X101.here hx rfl (hb hby d1_226) zk) ?_
                have f102 := (f100.other W101 (ne_lt VC.lt E91.1 (Nat.le_of_eq g92.symm)))
                refine Go.st (T' := T101) (g' := (mkF m 228 #[.val (.ref b), .val (.int n)] [(.int (cs.getD 4 0)), (.int (4 : Int32)), (.ref b92), (.ref b92), (.ref b91), (.ref b91)])) (fun _ zk => ldCV X101 hx hZ e101 f102 (j := (4 : Int32)) ⟨by decide, by decide⟩ (v := (.int (cs.getD 4 0))) (own_getD cs 4) (g := (mkF m 227 #[.val (.ref b), .val (.int n)] [(.int (4 : Int32)), (.ref b), (.int (4 : Int32)), (.ref b92), (.ref b92), (.ref b91), (.ref b91)])) rfl (rest := [(.int (4 : Int32)), (.ref b92), (.ref b92), (.ref b91), (.ref b91)]) rfl (hb hby d1_227) zk) ?_
                obtain ⟨T103, h103, X103, e103, W103, V103, st103⟩ := stCV X101 hx hZ e101 V101' (j := (4 : Int32)) (i := 4) (by decide) rfl (Nat.le_of_ble_eq_true rfl) (g := (mkF m 228 #[.val (.ref b), .val (.int n)] [(.int (cs.getD 4 0)), (.int (4 : Int32)), (.ref b92), (.ref b92), (.ref b91), (.ref b91)])) rfl rfl (hb hby d1_228)
                rw [nar_cid (x := cs.getD 4 0) (own_rg hr hcs (by decide))] at V103
                have V103' : Arv Z h103 b92 k92 .char (6 : Int32) [(.int (cs.getD 0 0)), (.int (cs.getD 1 0)), (.int (cs.getD 2 0)), (.int (cs.getD 3 0)), (.int (cs.getD 4 0)), (.int (0 : Int32))] (.int (0 : Int32)) := V103
                have N103 := Fr.snoc X103 N101 (Nat.le_trans Z0 (Nat.le_trans E91.1 (Nat.le_of_eq g92.symm)))
                refine Go.st (T' := T103) (g' := (mkF m 229 #[.val (.ref b), .val (.int n)] [(.ref b92), (.ref b91), (.ref b91)])) (fun _ zk => st103 _ zk) ?_
                refine Go.st (T' := T103) (g' := (mkF m 230 #[.val (.ref b), .val (.int n)] [(.ref b92), (.ref b92), (.ref b91), (.ref b91)])) (fun _ zk => XS.dup X103.here hx rfl (hb hby d1_229) rfl rfl zk) ?_
                refine Go.st (T' := T103) (g' := (mkF m 231 #[.val (.ref b), .val (.int n)] [(.int (5 : Int32)), (.ref b92), (.ref b92), (.ref b91), (.ref b91)])) (fun _ zk => XS.iconst X103.here hx rfl (hb hby d1_230) zk) ?_
                refine Go.st (T' := T103) (g' := (mkF m 232 #[.val (.ref b), .val (.int n)] [(.ref b), (.int (5 : Int32)), (.ref b92), (.ref b92), (.ref b91), (.ref b91)])) (fun _ zk => XS.aloadN X103.here hx rfl (hb hby d1_231) rfl rfl zk) ?_
                refine Go.st (T' := T103) (g' := (mkF m 233 #[.val (.ref b), .val (.int n)] [(.int (5 : Int32)), (.ref b), (.int (5 : Int32)), (.ref b92), (.ref b92), (.ref b91), (.ref b91)])) (fun _ zk => XS.iconst X103.here hx rfl (hb hby d1_232) zk) ?_
                have f104 := (f102.other W103 (ne_lt VC.lt E91.1 (Nat.le_of_eq g92.symm)))
                refine Go.st (T' := T103) (g' := (mkF m 234 #[.val (.ref b), .val (.int n)] [(.int (cs.getD 5 0)), (.int (5 : Int32)), (.ref b92), (.ref b92), (.ref b91), (.ref b91)])) (fun _ zk => ldCV X103 hx hZ e103 f104 (j := (5 : Int32)) ⟨by decide, by decide⟩ (v := (.int (cs.getD 5 0))) (own_getD cs 5) (g := (mkF m 233 #[.val (.ref b), .val (.int n)] [(.int (5 : Int32)), (.ref b), (.int (5 : Int32)), (.ref b92), (.ref b92), (.ref b91), (.ref b91)])) rfl (rest := [(.int (5 : Int32)), (.ref b92), (.ref b92), (.ref b91), (.ref b91)]) rfl (hb hby d1_233) zk) ?_
                obtain ⟨T105, h105, X105, e105, W105, V105, st105⟩ := stCV X103 hx hZ e103 V103' (j := (5 : Int32)) (i := 5) (by decide) rfl (Nat.le_of_ble_eq_true rfl) (g := (mkF m 234 #[.val (.ref b), .val (.int n)] [(.int (cs.getD 5 0)), (.int (5 : Int32)), (.ref b92), (.ref b92), (.ref b91), (.ref b91)])) rfl rfl (hb hby d1_234)
                rw [nar_cid (x := cs.getD 5 0) (own_rg hr hcs (by decide))] at V105
                have V105' : Arv Z h105 b92 k92 .char (6 : Int32) [(.int (cs.getD 0 0)), (.int (cs.getD 1 0)), (.int (cs.getD 2 0)), (.int (cs.getD 3 0)), (.int (cs.getD 4 0)), (.int (cs.getD 5 0))] (.int (0 : Int32)) := V105
                have N105 := Fr.snoc X105 N103 (Nat.le_trans Z0 (Nat.le_trans E91.1 (Nat.le_of_eq g92.symm)))
                refine Go.st (T' := T105) (g' := (mkF m 235 #[.val (.ref b), .val (.int n)] [(.ref b92), (.ref b91), (.ref b91)])) (fun _ zk => st105 _ zk) ?_
                have hrg : ∀ x ∈ [(cs.getD 0 0), (cs.getD 1 0), (cs.getD 2 0), (cs.getD 3 0), (cs.getD 4 0), (cs.getD 5 0)], 0 ≤ x.toInt ∧ x.toInt < 65536 := by
                  simp only [List.forall_mem_cons]
                  exact ⟨own_rg hr hcs (by decide), own_rg hr hcs (by decide), own_rg hr hcs (by decide), own_rg hr hcs (by decide), own_rg hr hcs (by decide), own_rg hr hcs (by decide), fun _ q => nomatch q⟩
                have xt106 : Ext h91 h105 := ((((((E92.thenW W95 (Nat.le_of_eq g92.symm)).thenW W97 (Nat.le_of_eq g92.symm)).thenW W99 (Nat.le_of_eq g92.symm)).thenW W101 (Nat.le_of_eq g92.symm)).thenW W103 (Nat.le_of_eq g92.symm)).thenW W105 (Nat.le_of_eq g92.symm))
                have f107 := A91.ext xt106
                have f108 := F91_coder.ext xt106
                have f109 := F91_value.ext xt106
                have xt111 : Ext h0 h105 := ((((((xt93.thenW W95 (Nat.le_trans E91.1 (Nat.le_of_eq g92.symm))).thenW W97 (Nat.le_trans E91.1 (Nat.le_of_eq g92.symm))).thenW W99 (Nat.le_trans E91.1 (Nat.le_of_eq g92.symm))).thenW W101 (Nat.le_trans E91.1 (Nat.le_of_eq g92.symm))).thenW W103 (Nat.le_trans E91.1 (Nat.le_of_eq g92.symm))).thenW W105 (Nat.le_trans E91.1 (Nat.le_of_eq g92.symm)))
                have f112 := O0.ext xt111
                refine Go.callSp (y := (⟨"java/lang/String", "<init>", "([C)V"⟩ : MethodName)) (a := b91) X105 hx hZ hown e105 rfl (w10 hw) (w11 hw) (w9 hw) (w12 hw) (by decide) (argsL := [(.ref b92)]) (rest := [(.ref b91)]) (W := 1) (rm_init1W l Z a0 hw [] b91 b92 k92 [(cs.getD 0 0), (cs.getD 1 0), (cs.getD 2 0), (cs.getD 3 0), (cs.getD 4 0), (cs.getD 5 0)] 6 zc h105 n0 (Nat.le_trans Z0 (Nat.le_trans (Nat.le_trans (Nat.le_trans (Nat.le_trans (Nat.le_trans (Nat.le_trans (Nat.le_trans E91.1 E92.1) (Keep.of_wr W95).1) (Keep.of_wr W97).1) (Keep.of_wr W99).1) (Keep.of_wr W101).1) (Keep.of_wr W103).1) (Keep.of_wr W105).1)) f112 f107 (Nat.le_trans Z0 (Nat.le_trans (Nat.le_refl _) (Nat.le_of_eq g91.symm))) f108 f109 V105' (by decide) rfl (by decide) (by decide) hrg CS hz UA UH UL) rfl (lenOf pd25 rfl) rfl (by rw [hml]; rfl) rfl (by show 2 * 0 + _ ≤ _; exact Nat.le_of_eq rfl) (by decide) (by decide) (by decide) (by decide) (hb hby d1_235) ?_
                intro v110 T110 h110 L110 X110 e110 q110
                obtain ⟨hv110, Nf110, K110, SC⟩ := q110
                subst hv110
                have N110 := Fr.app N105 Nf110
                show Go p.tables e below _ T110 (mkF m 238 #[.val (.ref b), .val (.int n)] [(.ref b91)])
                have xt113 : Ext h0 h110 := (xt111.thenK K110 (allS (P := fun x => h0.size ≤ x) (Nat.le_of_eq g91.symm) all0))
                have cr114 := chrE hA xt113
                refine Go.retAS X110 hx hlk hS (Nat.le_trans (Nat.zero_le _) (Nat.le_trans (Nat.le_trans (Nat.le_trans (Nat.le_trans (Nat.le_trans (Nat.le_trans (Nat.le_trans (Nat.le_trans E91.1 E92.1) (Keep.of_wr W95).1) (Keep.of_wr W97).1) (Keep.of_wr W99).1) (Keep.of_wr W101).1) (Keep.of_wr W103).1) (Keep.of_wr W105).1) K110.1)) cr114 hZ hEL hret rfl rfl (hb hby d1_238) (by decide) (by decide) e110 ?_
                exact ⟨_, [(cs.getD 0 0), (cs.getD 1 0), (cs.getD 2 0), (cs.getD 3 0), (cs.getD 4 0), (cs.getD 5 0)], rfl, N110, xt113, (Nat.le_trans (Nat.le_refl _) (Nat.le_of_eq g91.symm)), Nat.le_of_ble_eq_true rfl, hrg, SC⟩
              · refine Go.st (T' := s₁) (g' := (mkF m 239 #[.val (.ref b), .val (.int n)] [])) (fun _ zk => XS.icmpYes X0.here hx rfl (pc0 := 188) (pc' := 239) rfl (hb hby d1_188) rfl (feq hc188).2 (by decide) (by decide) zk) ?_
                refine Go.st (T' := s₁) (g' := (mkF m 240 #[.val (.ref b), .val (.int n)] [(.int n)])) (fun _ zk => XS.iloadN X0.here hx rfl (hb hby d1_239) rfl zk) ?_
                refine Go.st (T' := s₁) (g' := (mkF m 242 #[.val (.ref b), .val (.int n)] [(.int (7 : Int32)), (.int n)])) (fun _ zk => XS.bipush X0.here hx rfl (hb hby d1_240) zk) ?_
                by_cases hc242 : n = (7 : Int32)
                · refine Go.st (T' := s₁) (g' := (mkF m 245 #[.val (.ref b), .val (.int n)] [])) (fun _ zk => XS.icmpNo X0.here hx rfl (hb hby d1_242) rfl (teq hc242).2 zk) ?_
                  obtain ⟨T115, h115, X115, e115, E115, A115, D115, -, st115⟩ := newO X0 hx hZ hown (w7 hw) (w8 hw) (w9 hw) e0 (g := (mkF m 245 #[.val (.ref b), .val (.int n)] [])) rfl (hb hby d1_245) (by decide) (by decide)
                  obtain ⟨b115, g115⟩ : ∃ z, z = h0.size := ⟨_, rfl⟩
                  rw [← g115] at A115 D115 st115
                  have F115_value : Fld Z h115 b115 "java/lang/String" "value" "[B" .null := D115 (Or.inr (w22 hw)) (ty := (.array .byte)) (by decide)
                  have F115_coder : Fld Z h115 b115 "java/lang/String" "coder" "B" (.int (0 : Int32)) := D115 (Or.inr (w23 hw)) (ty := .byte) (by decide)
                  refine Go.st (T' := T115) (g' := (mkF m 248 #[.val (.ref b), .val (.int n)] [(.ref b115)])) (fun _ zk => st115 _ zk) ?_
                  refine Go.st (T' := T115) (g' := (mkF m 249 #[.val (.ref b), .val (.int n)] [(.ref b115), (.ref b115)])) (fun _ zk => XS.dup X115.here hx rfl (hb hby d1_248) rfl rfl zk) ?_
                  refine Go.st (T' := T115) (g' := (mkF m 251 #[.val (.ref b), .val (.int n)] [(.int (7 : Int32)), (.ref b115), (.ref b115)])) (fun _ zk => XS.bipush X115.here hx rfl (hb hby d1_249) zk) ?_
                  obtain ⟨T116, h116, k116, X116, e116, E116, A116, st116⟩ := newP (aty := .char) X115 hx hZ (w2 hw) e115 (g := (mkF m 251 #[.val (.ref b), .val (.int n)] [(.int (7 : Int32)), (.ref b115), (.ref b115)])) rfl (hb hby d1_251) rfl (by decide) (cap := 7) (by decide) (by decide) (by decide) (by decide)
                  obtain ⟨b116, g116⟩ : ∃ z, z = h115.size := ⟨_, rfl⟩
                  rw [← g116] at A116 st116
                  have V116 : Arv Z h116 b116 k116 .char (7 : Int32) [(.int (0 : Int32)), (.int (0 : Int32)), (.int (0 : Int32)), (.int (0 : Int32)), (.int (0 : Int32)), (.int (0 : Int32)), (.int (0 : Int32))] (.int (0 : Int32)) := (Arv.new A116 (by decide)).pad (pad_rep [] (.int (0 : Int32)) 7)
                  refine Go.st (T' := T116) (g' := (mkF m 253 #[.val (.ref b), .val (.int n)] [(.ref b116), (.ref b115), (.ref b115)])) (fun _ zk => st116 _ zk) ?_
                  refine Go.st (T' := T116) (g' := (mkF m 254 #[.val (.ref b), .val (.int n)] [(.ref b116), (.ref b116), (.ref b115), (.ref b115)])) (fun _ zk => XS.dup X116.here hx rfl (hb hby d1_253) rfl rfl zk) ?_
                  refine Go.st (T' := T116) (g' := (mkF m 255 #[.val (.ref b), .val (.int n)] [(.int (0 : Int32)), (.ref b116), (.ref b116), (.ref b115), (.ref b115)])) (fun _ zk => XS.iconst X116.here hx rfl (hb hby d1_254) zk) ?_
                  refine Go.st (T' := T116) (g' := (mkF m 256 #[.val (.ref b), .val (.int n)] [(.ref b), (.int (0 : Int32)), (.ref b116), (.ref b116), (.ref b115), (.ref b115)])) (fun _ zk => XS.aloadN X116.here hx rfl (hb hby d1_255) rfl rfl zk) ?_
                  refine Go.st (T' := T116) (g' := (mkF m 257 #[.val (.ref b), .val (.int n)] [(.int (0 : Int32)), (.ref b), (.int (0 : Int32)), (.ref b116), (.ref b116), (.ref b115), (.ref b115)])) (fun _ zk => XS.iconst X116.here hx rfl (hb hby d1_256) zk) ?_
                  have xt117 : Ext h0 h116 := (E115.tr E116)
                  have f118 := VC.ext xt117
                  refine Go.st (T' := T116) (g' := (mkF m 258 #[.val (.ref b), .val (.int n)] [(.int (cs.getD 0 0)), (.int (0 : Int32)), (.ref b116), (.ref b116), (.ref b115), (.ref b115)])) (fun _ zk => ldCV X116 hx hZ e116 f118 (j := (0 : Int32)) ⟨by decide, by decide⟩ (v := (.int (cs.getD 0 0))) (own_getD cs 0) (g := (mkF m 257 #[.val (.ref b), .val (.int n)] [(.int (0 : Int32)), (.ref b), (.int (0 : Int32)), (.ref b116), (.ref b116), (.ref b115), (.ref b115)])) rfl (rest := [(.int (0 : Int32)), (.ref b116), (.ref b116), (.ref b115), (.ref b115)]) rfl (hb hby d1_257) zk) ?_
                  obtain ⟨T119, h119, X119, e119, W119, V119, st119⟩ := stCV X116 hx hZ e116 V116 (j := (0 : Int32)) (i := 0) (by decide) rfl (Nat.le_of_ble_eq_true rfl) (g := (mkF m 258 #[.val (.ref b), .val (.int n)] [(.int (cs.getD 0 0)), (.int (0 : Int32)), (.ref b116), (.ref b116), (.ref b115), (.ref b115)])) rfl rfl (hb hby d1_258)
                  rw [nar_cid (x := cs.getD 0 0) (own_rg hr hcs (by decide))] at V119
                  have V119' : Arv Z h119 b116 k116 .char (7 : Int32) [(.int (cs.getD 0 0)), (.int (0 : Int32)), (.int (0 : Int32)), (.int (0 : Int32)), (.int (0 : Int32)), (.int (0 : Int32)), (.int (0 : Int32))] (.int (0 : Int32)) := V119
                  have N119 := Fr.snoc X119 N0 (Nat.le_trans Z0 (Nat.le_trans E115.1 (Nat.le_of_eq g116.symm)))
                  refine Go.st (T' := T119) (g' := (mkF m 259 #[.val (.ref b), .val (.int n)] [(.ref b116), (.ref b115), (.ref b115)])) (fun _ zk => st119 _ zk) ?_
                  refine Go.st (T' := T119) (g' := (mkF m 260 #[.val (.ref b), .val (.int n)] [(.ref b116), (.ref b116), (.ref b115), (.ref b115)])) (fun _ zk => XS.dup X119.here hx rfl (hb hby d1_259) rfl rfl zk) ?_
                  refine Go.st (T' := T119) (g' := (mkF m 261 #[.val (.ref b), .val (.int n)] [(.int (1 : Int32)), (.ref b116), (.ref b116), (.ref b115), (.ref b115)])) (fun _ zk => XS.iconst X119.here hx rfl (hb hby d1_260) zk) ?_
                  refine Go.st (T' := T119) (g' := (mkF m 262 #[.val (.ref b), .val (.int n)] [(.ref b), (.int (1 : Int32)), (.ref b116), (.ref b116), (.ref b115), (.ref b115)])) (fun _ zk => XS.aloadN X119.here hx rfl (hb hby d1_261) rfl rfl zk) ?_
                  refine Go.st (T' := T119) (g' := (mkF m 263 #[.val (.ref b), .val (.int n)] [(.int (1 : Int32)), (.ref b), (.int (1 : Int32)), (.ref b116), (.ref b116), (.ref b115), (.ref b115)])) (fun _ zk => XS.iconst X119.here hx rfl (hb hby d1_262) zk) ?_
                  have f120 := (f118.other W119 (ne_lt VC.lt E115.1 (Nat.le_of_eq g116.symm)))
                  refine Go.st (T' := T119) (g' := (mkF m 264 #[.val (.ref b), .val (.int n)] [(.int (cs.getD 1 0)), (.int (1 : Int32)), (.ref b116), (.ref b116), (.ref b115), (.ref b115)])) (fun _ zk => ldCV X119 hx hZ e119 f120 (j := (1 : Int32)) ⟨by decide, by decide⟩ (v := (.int (cs.getD 1 0))) (own_getD cs 1) (g := (mkF m 263 #[.val (.ref b), .val (.int n)] [(.int (1 : Int32)), (.ref b), (.int (1 : Int32)), (.ref b116), (.ref b116), (.ref b115), (.ref b115)])) rfl (rest := [(.int (1 : Int32)), (.ref b116), (.ref b116), (.ref b115), (.ref b115)]) rfl (hb hby d1_263) zk) ?_
                  obtain ⟨T121, h121, X121, e121, W121, V121, st121⟩ := stCV X119 hx hZ e119 V119' (j := (1 : Int32)) (i := 1) (by decide) rfl (Nat.le_of_ble_eq_true rfl) (g := (mkF m 264 #[.val (.ref b), .val (.int n)] [(.int (cs.getD 1 0)), (.int (1 : Int32)), (.ref b116), (.ref b116), (.ref b115), (.ref b115)])) rfl rfl (hb hby d1_264)
                  rw [nar_cid (x := cs.getD 1 0) (own_rg hr hcs (by decide))] at V121
                  have V121' : Arv Z h121 b116 k116 .char (7 : Int32) [(.int (cs.getD 0 0)), (.int (cs.getD 1 0)), (.int (0 : Int32)), (.int (0 : Int32)), (.int (0 : Int32)), (.int (0 : Int32)), (.int (0 : Int32))] (.int (0 : Int32)) := V121
                  have N121 := Fr.snoc X121 N119 (Nat.le_trans Z0 (Nat.le_trans E115.1 (Nat.le_of_eq g116.symm)))
                  refine Go.st (T' := T121) (g' := (mkF m 265 #[.val (.ref b), .val (.int n)] [(.ref b116), (.ref b115), (.ref b115)])) (fun _ zk => st121 _ zk) ?_
                  refine Go.st (T' := T121) (g' := (mkF m 266 #[.val (.ref b), .val (.int n)] [(.ref b116), (.ref b116), (.ref b115), (.ref b115)])) (fun _ zk => XS.dup X121.here hx rfl (hb hby d1_265) rfl rfl zk) ?_
                  refine Go.st (T' := T121) (g' := (mkF m 267 #[.val (.ref b), .val (.int n)] [(.int (2 : Int32)), (.ref b116), (.ref b116), (.ref b115), (.ref b115)])) (fun _ zk => XS.iconst X121.here hx rfl (hb hby d1_266) zk) ?_
                  refine Go.st (T' := T121) (g' := (mkF m 268 #[.val (.ref b), .val (.int n)] [(.ref b), (.int (2 : Int32)), (.ref b116), (.ref b116), (.ref b115), (.ref b115)])) (fun _ zk => XS.aloadN X121.here hx rfl (hb hby d1_267) rfl rfl zk) ?_
                  refine Go.st (T' := T121) (g' := (mkF m 269 #[.val (.ref b), .val (.int n)] [(.int (2 : Int32)), (.ref b), (.int (2 : Int32)), (.ref b116), (.ref b116), (.ref b115), (.ref b115)])) (fun _ zk => XS.iconst X121.here hx rfl (hb hby d1_268) zk) ?_
                  have f122 := (f120.other W121 (ne_lt VC.lt E115.1 (Nat.le_of_eq g116.symm)))
                  refine Go.st (T' := T121) (g' := (mkF m 270 #[.val (.ref b), .val (.int n)] [(.int (cs.getD 2 0)), (.int (2 : Int32)), (.ref b116), (.ref b116), (.ref b115), (.ref b115)])) (fun _ zk => ldCV X121 hx hZ e121 f122 (j := (2 : Int32)) ⟨by decide, by decide⟩ (v := (.int (cs.getD 2 0))) (own_getD cs 2) (g := (mkF m 269 #[.val (.ref b), .val (.int n)] [(.int (2 : Int32)), (.ref b), (.int (2 : Int32)), (.ref b116), (.ref b116), (.ref b115), (.ref b115)])) rfl (rest := [(.int (2 : Int32)), (.ref b116), (.ref b116), (.ref b115), (.ref b115)]) rfl (hb hby d1_269) zk) ?_
                  obtain ⟨T123, h123, X123, e123, W123, V123, st123⟩ := stCV X121 hx hZ e121 V121' (j := (2 : Int32)) (i := 2) (by decide) rfl (Nat.le_of_ble_eq_true rfl) (g := (mkF m 270 #[.val (.ref b), .val (.int n)] [(.int (cs.getD 2 0)), (.int (2 : Int32)), (.ref b116), (.ref b116), (.ref b115), (.ref b115)])) rfl rfl (hb hby d1_270)
                  rw [nar_cid (x := cs.getD 2 0) (own_rg hr hcs (by decide))] at V123
                  have V123' : Arv Z h123 b116 k116 .char (7 : Int32) [(.int (cs.getD 0 0)), (.int (cs.getD 1 0)), (.int (cs.getD 2 0)), (.int (0 : Int32)), (.int (0 : Int32)), (.int (0 : Int32)), (.int (0 : Int32))] (.int (0 : Int32)) := V123
                  have N123 := Fr.snoc X123 N121 (Nat.le_trans Z0 (Nat.le_trans E115.1 (Nat.le_of_eq g116.symm)))
                  refine Go.st (T' := T123) (g' := (mkF m 271 #[.val (.ref b), .val (.int n)] [(.ref b116), (.ref b115), (.ref b115)])) (fun _ zk => st123 _ zk) ?_
                  refine Go.st (T' := T123) (g' := (mkF m 272 #[.val (.ref b), .val (.int n)] [(.ref b116), (.ref b116), (.ref b115), (.ref b115)])) (fun _ zk => XS.dup X123.here hx rfl (hb hby d1_271) rfl rfl zk) ?_
                  refine Go.st (T' := T123) (g' := (mkF m 273 #[.val (.ref b), .val (.int n)] [(.int (3 : Int32)), (.ref b116), (.ref b116), (.ref b115), (.ref b115)])) (fun _ zk => XS.iconst X123.here hx rfl (hb hby d1_272) zk) ?_
                  refine Go.st (T' := T123) (g' := (mkF m 274 #[.val (.ref b), .val (.int n)] [(.ref b), (.int (3 : Int32)), (.ref b116), (.ref b116), (.ref b115), (.ref b115)])) (fun _ zk => XS.aloadN X123.here hx rfl (hb hby d1_273) rfl rfl zk) ?_
                  refine Go.st (T' := T123) (g' := (mkF m 275 #[.val (.ref b), .val (.int n)] [(.int (3 : Int32)), (.ref b), (.int (3 : Int32)), (.ref b116), (.ref b116), (.ref b115), (.ref b115)])) (fun _ zk => XS.iconst X123.here hx rfl (hb hby d1_274) zk) ?_
                  have f124 := (f122.other W123 (ne_lt VC.lt E115.1 (Nat.le_of_eq g116.symm)))
                  refine Go.st (T' := T123) (g' := (mkF m 276 #[.val (.ref b), .val (.int n)] [(.int (cs.getD 3 0)), (.int (3 : Int32)), (.ref b116), (.ref b116), (.ref b115), (.ref b115)])) (fun _ zk => ldCV X123 hx hZ e123 f124 (j := (3 : Int32)) ⟨by decide, by decide⟩ (v := (.int (cs.getD 3 0))) (own_getD cs 3) (g := (mkF m 275 #[.val (.ref b), .val (.int n)] [(.int (3 : Int32)), (.ref b), (.int (3 : Int32)), (.ref b116), (.ref b116), (.ref b115), (.ref b115)])) rfl (rest := [(.int (3 : Int32)), (.ref b116), (.ref b116), (.ref b115), (.ref b115)]) rfl (hb hby d1_275) zk) ?_
                  obtain ⟨T125, h125, X125, e125, W125, V125, st125⟩ := stCV X123 hx hZ e123 V123' (j := (3 : Int32)) (i := 3) (by decide) rfl (Nat.le_of_ble_eq_true rfl) (g := (mkF m 276 #[.val (.ref b), .val (.int n)] [(.int (cs.getD 3 0)), (.int (3 : Int32)), (.ref b116), (.ref b116), (.ref b115), (.ref b115)])) rfl rfl (hb hby d1_276)
                  rw [nar_cid (x := cs.getD 3 0) (own_rg hr hcs (by decide))] at V125
                  have V125' : Arv Z h125 b116 k116 .char (7 : Int32) [(.int (cs.getD 0 0)), (.int (cs.getD 1 0)), (.int (cs.getD 2 0)), (.int (cs.getD 3 0)), (.int (0 : Int32)), (.int (0 : Int32)), (.int (0 : Int32))] (.int (0 : Int32)) := V125
                  have N125 := Fr.snoc X125 N123 (Nat.le_trans Z0 (Nat.le_trans E115.1 (Nat.le_of_eq g116.symm)))
                  refine Go.st (T' := T125) (g' := (mkF m 277 #[.val (.ref b), .val (.int n)] [(.ref b116), (.ref b115), (.ref b115)])) (fun _ zk => st125 _ zk) ?_
                  refine Go.st (T' := T125) (g' := (mkF m 278 #[.val (.ref b), .val (.int n)] [(.ref b116), (.ref b116), (.ref b115), (.ref b115)])) (fun _ zk => XS.dup X125.here hx rfl (hb hby d1_277) rfl rfl zk) ?_
                  refine Go.st (T' := T125) (g' := (mkF m 279 #[.val (.ref b), .val (.int n)] [(.int (4 : Int32)), (.ref b116), (.ref b116), (.ref b115), (.ref b115)])) (fun _ zk => XS.iconst X125.here hx rfl (hb hby d1_278) zk) ?_
                  refine Go.st (T' := T125) (g' := (mkF m 280 #[.val (.ref b), .val (.int n)] [(.ref b), (.int (4 : Int32)), (.ref b116), (.ref b116), (.ref b115), (.ref b115)])) (fun _ zk => XS.aloadN X125.here hx rfl (hb hby d1_279) rfl rfl zk) ?_
                  refine Go.st (T' := T125) (g' := (mkF m 281 #[.val (.ref b), .val (.int n)] [(.int (4 : Int32)), (.ref b), (.int (4 : Int32)), (.ref b116), (.ref b116), (.ref b115), (.ref b115)])) (fun _ zk => XS.iconst X125.here hx rfl (hb hby d1_280) zk) ?_
                  have f126 := (f124.other W125 (ne_lt VC.lt E115.1 (Nat.le_of_eq g116.symm)))
                  refine Go.st (T' := T125) (g' := (mkF m 282 #[.val (.ref b), .val (.int n)] [(.int (cs.getD 4 0)), (.int (4 : Int32)), (.ref b116), (.ref b116), (.ref b115), (.ref b115)])) (fun _ zk => ldCV X125 hx hZ e125 f126 (j := (4 : Int32)) ⟨by decide, by decide⟩ (v := (.int (cs.getD 4 0))) (own_getD cs 4) (g := (mkF m 281 #[.val (.ref b), .val (.int n)] [(.int (4 : Int32)), (.ref b), (.int (4 : Int32)), (.ref b116), (.ref b116), (.ref b115), (.ref b115)])) rfl (rest := [(.int (4 : Int32)), (.ref b116), (.ref b116), (.ref b115), (.ref b115)]) rfl (hb hby d1_281) zk) ?_
                  obtain ⟨T127, h127, X127, e127, W127, V127, st127⟩ := stCV X125 hx hZ e125 V125' (j := (4 : Int32)) (i := 4) (by decide) rfl (Nat.le_of_ble_eq_true rfl) (g := (mkF m 282 #[.val (.ref b), .val (.int n)] [(.int (cs.getD 4 0)), (.int (4 : Int32)), (.ref b116), (.ref b116), (.ref b115), (.ref b115)])) rfl rfl (hb hby d1_282)
                  rw [nar_cid (x := cs.getD 4 0) (own_rg hr hcs (by decide))] at V127
                  have V127' : Arv Z h127 b116 k116 .char (7 : Int32) [(.int (cs.getD 0 0)), (.int (cs.getD 1 0)), (.int (cs.getD 2 0)), (.int (cs.getD 3 0)), (.int (cs.getD 4 0)), (.int (0 : Int32)), (.int (0 : Int32))] (.int (0 : Int32)) := V127
                  have N127 := Fr.snoc X127 N125 (Nat.le_trans Z0 (Nat.le_trans E115.1 (Nat.le_of_eq g116.symm)))
                  refine Go.st (T' := T127) (g' := (mkF m 283 #[.val (.ref b), .val (.int n)] [(.ref b116), (.ref b115), (.ref b115)])) (fun _ zk => st127 _ zk) ?_
                  refine Go.st (T' := T127) (g' := (mkF m 284 #[.val (.ref b), .val (.int n)] [(.ref b116), (.ref b116), (.ref b115), (.ref b115)])) (fun _ zk => XS.dup X127.here hx rfl (hb hby d1_283) rfl rfl zk) ?_
                  refine Go.st (T' := T127) (g' := (mkF m 285 #[.val (.ref b), .val (.int n)] [(.int (5 : Int32)), (.ref b116), (.ref b116), (.ref b115), (.ref b115)])) (fun _ zk => XS.iconst X127.here hx rfl (hb hby d1_284) zk) ?_
                  refine Go.st (T' := T127) (g' := (mkF m 286 #[.val (.ref b), .val (.int n)] [(.ref b), (.int (5 : Int32)), (.ref b116), (.ref b116), (.ref b115), (.ref b115)])) (fun _ zk => XS.aloadN X127.here hx rfl (hb hby d1_285) rfl rfl zk) ?_
                  refine Go.st (T' := T127) (g' := (mkF m 287 #[.val (.ref b), .val (.int n)] [(.int (5 : Int32)), (.ref b), (.int (5 : Int32)), (.ref b116), (.ref b116), (.ref b115), (.ref b115)])) (fun _ zk => XS.iconst X127.here hx rfl (hb hby d1_286) zk) ?_
                  have f128 := (f126.other W127 (ne_lt VC.lt E115.1 (Nat.le_of_eq g116.symm)))
                  refine Go.st (T' := T127) (g' := (mkF m 288 #[.val (.ref b), .val (.int n)] [(.int (cs.getD 5 0)), (.int (5 : Int32)), (.ref b116), (.ref b116), (.ref b115), (.ref b115)])) (fun _ zk => ldCV X127 hx hZ e127 f128 (j := (5 : Int32)) ⟨by decide, by decide⟩ (v := (.int (cs.getD 5 0))) (own_getD cs 5) (g := (mkF m 287 #[.val (.ref b), .val (.int n)] [(.int (5 : Int32)), (.ref b), (.int (5 : Int32)), (.ref b116), (.ref b116), (.ref b115), (.ref b115)])) rfl (rest := [(.int (5 : Int32)), (.ref b116), (.ref b116), (.ref b115), (.ref b115)]) rfl (hb hby d1_287) zk) ?_
                  obtain ⟨T129, h129, X129, e129, W129, V129, st129⟩ := stCV X127 hx hZ e127 V127' (j := (5 : Int32)) (i := 5) (by decide) rfl (Nat.le_of_ble_eq_true rfl) (g := (mkF m 288 #[.val (.ref b), .val (.int n)] [(.int (cs.getD 5 0)), (.int (5 : Int32)), (.ref b116), (.ref b116), (.ref b115), (.ref b115)])) rfl rfl (hb hby d1_288)
                  rw [nar_cid (x := cs.getD 5 0) (own_rg hr hcs (by decide))] at V129
                  have V129' : Arv Z h129 b116 k116 .char (7 : Int32) [(.int (cs.getD 0 0)), (.int (cs.getD 1 0)), (.int (cs.getD 2 0)), (.int (cs.getD 3 0)), (.int (cs.getD 4 0)), (.int (cs.getD 5 0)), (.int (0 : Int32))] (.int (0 : Int32)) := V129
                  have N129 := Fr.snoc X129 N127 (Nat.le_trans Z0 (Nat.le_trans E115.1 (Nat.le_of_eq g116.symm)))
                  refine Go.st (T' := T129) (g' := (mkF m 289 #[.val (.ref b), .val (.int n)] [(.ref b116), (.ref b115), (.ref b115)])) (fun _ zk => st129 _ zk) ?_
                  refine Go.st (T' := T129) (g' := (mkF m 290 #[.val (.ref b), .val (.int n)] [(.ref b116), (.ref b116), (.ref b115), (.ref b115)])) (fun _ zk => XS.dup X129.here hx rfl (hb hby d1_289) rfl rfl zk) ?_
                  refine Go.st (T' := T129) (g' := (mkF m 292 #[.val (.ref b), .val (.int n)] [(.int (6 : Int32)), (.ref b116), (.ref b116), (.ref b115), (.ref b115)])) (fun _ zk => XS.bipush X129.here hx rfl (hb hby d1_290) zk) ?_
                  refine Go.st (T' := T129) (g' := (mkF m 293 #[.val (.ref b), .val (.int n)] [(.ref b), (.int (6 : Int32)), (.ref b116), (.ref b116), (.ref b115), (.ref b115)])) (fun _ zk => XS.aloadN X129.here hx rfl (hb hby d1_292) rfl rfl zk) ?_
                  refine Go.st (T' := T129) (g' := (mkF m 295 #[.val (.ref b), .val (.int n)] [(.int (6 : Int32)), (.ref b), (.int (6 : Int32)), (.ref b116), (.ref b116), (.ref b115), (.ref b115)])) (fun _ zk => XS.bipush X129.here hx rfl (hb hby d1_293) zk) ?_
                  have f130 := (f128.other W129 (ne_lt VC.lt E115.1 (Nat.le_of_eq g116.symm)))
                  refine Go.st (T' := T129) (g' := (mkF m 296 #[.val (.ref b), .val (.int n)] [(.int (cs.getD 6 0)), (.int (6 : Int32)), (.ref b116), (.ref b116), (.ref b115), (.ref b115)])) (fun _ zk => ldCV X129 hx hZ e129 f130 (j := (6 : Int32)) ⟨by decide, by decide⟩ (v := (.int (cs.getD 6 0))) (own_getD cs 6) (g := (mkF m 295 #[.val (.ref b), .val (.int n)] [(.int (6 : Int32)), (.ref b), (.int (6 : Int32)), (.ref b116), (.ref b116), (.ref b115), (.ref b115)])) rfl (rest := [(.int (6 : Int32)), (.ref b116), (.ref b116), (.ref b115), (.ref b115)]) rfl (hb hby d1_295) zk) ?_
                  obtain ⟨T131, h131, X131, e131, W131, V131, st131⟩ := stCV X129 hx hZ e129 V129' (j := (6 : Int32)) (i := 6) (by decide) rfl (Nat.le_of_ble_eq_true rfl) (g := (mkF m 296 #[.val (.ref b), .val (.int n)] [(.int (cs.getD 6 0)), (.int (6 : Int32)), (.ref b116), (.ref b116), (.ref b115), (.ref b115)])) rfl rfl (hb hby d1_296)
                  rw [nar_cid (x := cs.getD 6 0) (own_rg hr hcs (by decide))] at V131
                  have V131' : Arv Z h131 b116 k116 .char (7 : Int32) [(.int (cs.getD 0 0)), (.int (cs.getD 1 0)), (.int (cs.getD 2 0)), (.int (cs.getD 3 0)), (.int (cs.getD 4 0)), (.int (cs.getD 5 0)), (.int (cs.getD 6 0))] (.int (0 : Int32)) := V131
                  have N131 := Fr.snoc X131 N129 (Nat.le_trans Z0 (Nat.le_trans E115.1 (Nat.le_of_eq g116.symm)))
                  refine Go.st (T' := T131) (g' := (mkF m 297 #[.val (.ref b), .val (.int n)] [(.ref b116), (.ref b115), (.ref b115)])) (fun _ zk => st131 _ zk) ?_
                  have hrg : ∀ x ∈ [(cs.getD 0 0), (cs.getD 1 0), (cs.getD 2 0), (cs.getD 3 0), (cs.getD 4 0), (cs.getD 5 0), (cs.getD 6 0)], 0 ≤ x.toInt ∧ x.toInt < 65536 := by
                    simp only [List.forall_mem_cons]
                    exact ⟨own_rg hr hcs (by decide), own_rg hr hcs (by decide), own_rg hr hcs (by decide), own_rg hr hcs (by decide), own_rg hr hcs (by decide), own_rg hr hcs (by decide), own_rg hr hcs (by decide), fun _ q => nomatch q⟩
                  have xt132 : Ext h115 h131 := (((((((E116.thenW W119 (Nat.le_of_eq g116.symm)).thenW W121 (Nat.le_of_eq g116.symm)).thenW W123 (Nat.le_of_eq g116.symm)).thenW W125 (Nat.le_of_eq g116.symm)).thenW W127 (Nat.le_of_eq g116.symm)).thenW W129 (Nat.le_of_eq g116.symm)).thenW W131 (Nat.le_of_eq g116.symm))
                  have f133 := A115.ext xt132
                  have f134 := F115_coder.ext xt132
                  have f135 := F115_value.ext xt132
                  have xt137 : Ext h0 h131 := (((((((xt117.thenW W119 (Nat.le_trans E115.1 (Nat.le_of_eq g116.symm))).thenW W121 (Nat.le_trans E115.1 (Nat.le_of_eq g116.symm))).thenW W123 (Nat.le_trans E115.1 (Nat.le_of_eq g116.symm))).thenW W125 (Nat.le_trans E115.1 (Nat.le_of_eq g116.symm))).thenW W127 (Nat.le_trans E115.1 (Nat.le_of_eq g116.symm))).thenW W129 (Nat.le_trans E115.1 (Nat.le_of_eq g116.symm))).thenW W131 (Nat.le_trans E115.1 (Nat.le_of_eq g116.symm)))
                  have f138 := O0.ext xt137
                  refine Go.callSp (y := (⟨"java/lang/String", "<init>", "([C)V"⟩ : MethodName)) (a := b115) X131 hx hZ hown e131 rfl (w10 hw) (w11 hw) (w9 hw) (w12 hw) (by decide) (argsL := [(.ref b116)]) (rest := [(.ref b115)]) (W := 1) (rm_init1W l Z a0 hw [] b115 b116 k116 [(cs.getD 0 0), (cs.getD 1 0), (cs.getD 2 0), (cs.getD 3 0), (cs.getD 4 0), (cs.getD 5 0), (cs.getD 6 0)] 7 zc h131 n0 (Nat.le_trans Z0 (Nat.le_trans (Nat.le_trans (Nat.le_trans (Nat.le_trans (Nat.le_trans (Nat.le_trans (Nat.le_trans (Nat.le_trans E115.1 E116.1) (Keep.of_wr W119).1) (Keep.of_wr W121).1) (Keep.of_wr W123).1) (Keep.of_wr W125).1) (Keep.of_wr W127).1) (Keep.of_wr W129).1) (Keep.of_wr W131).1)) f138 f133 (Nat.le_trans Z0 (Nat.le_trans (Nat.le_refl _) (Nat.le_of_eq g115.symm))) f134 f135 V131' (by decide) rfl (by decide) (by decide) hrg CS hz UA UH UL) rfl (lenOf pd25 rfl) rfl (by rw [hml]; rfl) rfl (by show 2 * 0 + _ ≤ _; exact Nat.le_of_eq rfl) (by decide) (by decide) (by decide) (by decide) (hb hby d1_297) ?_
                  intro v136 T136 h136 L136 X136 e136 q136
                  obtain ⟨hv136, Nf136, K136, SC⟩ := q136
                  subst hv136
                  have N136 := Fr.app N131 Nf136
                  show Go p.tables e below _ T136 (mkF m 300 #[.val (.ref b), .val (.int n)] [(.ref b115)])
                  have xt139 : Ext h0 h136 := (xt137.thenK K136 (allS (P := fun x => h0.size ≤ x) (Nat.le_of_eq g115.symm) all0))
                  have cr140 := chrE hA xt139
                  refine Go.retAS X136 hx hlk hS (Nat.le_trans (Nat.zero_le _) (Nat.le_trans (Nat.le_trans (Nat.le_trans (Nat.le_trans (Nat.le_trans (Nat.le_trans (Nat.le_trans (Nat.le_trans (Nat.le_trans E115.1 E116.1) (Keep.of_wr W119).1) (Keep.of_wr W121).1) (Keep.of_wr W123).1) (Keep.of_wr W125).1) (Keep.of_wr W127).1) (Keep.of_wr W129).1) (Keep.of_wr W131).1) K136.1)) cr140 hZ hEL hret rfl rfl (hb hby d1_300) (by decide) (by decide) e136 ?_
                  exact ⟨_, [(cs.getD 0 0), (cs.getD 1 0), (cs.getD 2 0), (cs.getD 3 0), (cs.getD 4 0), (cs.getD 5 0), (cs.getD 6 0)], rfl, N136, xt139, (Nat.le_trans (Nat.le_refl _) (Nat.le_of_eq g115.symm)), Nat.le_of_ble_eq_true rfl, hrg, SC⟩
                · refine Go.st (T' := s₁) (g' := (mkF m 301 #[.val (.ref b), .val (.int n)] [])) (fun _ zk => XS.icmpYes X0.here hx rfl (pc0 := 242) (pc' := 301) rfl (hb hby d1_242) rfl (feq hc242).2 (by decide) (by decide) zk) ?_
                  refine Go.st (T' := s₁) (g' := (mkF m 302 #[.val (.ref b), .val (.int n)] [(.int n)])) (fun _ zk => XS.iloadN X0.here hx rfl (hb hby d1_301) rfl zk) ?_
                  refine Go.st (T' := s₁) (g' := (mkF m 304 #[.val (.ref b), .val (.int n)] [(.int (8 : Int32)), (.int n)])) (fun _ zk => XS.bipush X0.here hx rfl (hb hby d1_302) zk) ?_
                  by_cases hc304 : n = (8 : Int32)
                  · refine Go.st (T' := s₁) (g' := (mkF m 307 #[.val (.ref b), .val (.int n)] [])) (fun _ zk => XS.icmpNo X0.here hx rfl (hb hby d1_304) rfl (teq hc304).2 zk) ?_
                    obtain ⟨T141, h141, X141, e141, E141, A141, D141, -, st141⟩ := newO X0 hx hZ hown (w7 hw) (w8 hw) (w9 hw) e0 (g := (mkF m 307 #[.val (.ref b), .val (.int n)] [])) rfl (hb hby d1_307) (by decide) (by decide)
                    obtain ⟨b141, g141⟩ : ∃ z, z = h0.size := ⟨_, rfl⟩
                    rw [← g141] at A141 D141 st141
                    have F141_value : Fld Z h141 b141 "java/lang/String" "value" "[B" .null := D141 (Or.inr (w22 hw)) (ty := (.array .byte)) (by decide)
                    have F141_coder : Fld Z h141 b141 "java/lang/String" "coder" "B" (.int (0 : Int32)) := D141 (Or.inr (w23 hw)) (ty := .byte) (by decide)
                    refine Go.st (T' := T141) (g' := (mkF m 310 #[.val (.ref b), .val (.int n)] [(.ref b141)])) (fun _ zk => st141 _ zk) ?_
                    refine Go.st (T' := T141) (g' := (mkF m 311 #[.val (.ref b), .val (.int n)] [(.ref b141), (.ref b141)])) (fun _ zk => XS.dup X141.here hx rfl (hb hby d1_310) rfl rfl zk) ?_
                    refine Go.st (T' := T141) (g' := (mkF m 313 #[.val (.ref b), .val (.int n)] [(.int (8 : Int32)), (.ref b141), (.ref b141)])) (fun _ zk => XS.bipush X141.here hx rfl (hb hby d1_311) zk) ?_
                    obtain ⟨T142, h142, k142, X142, e142, E142, A142, st142⟩ := newP (aty := .char) X141 hx hZ (w2 hw) e141 (g := (mkF m 313 #[.val (.ref b), .val (.int n)] [(.int (8 : Int32)), (.ref b141), (.ref b141)])) rfl (hb hby d1_313) rfl (by decide) (cap := 8) (by decide) (by decide) (by decide) (by decide)
                    obtain ⟨b142, g142⟩ : ∃ z, z = h141.size := ⟨_, rfl⟩
                    rw [← g142] at A142 st142
                    have V142 : Arv Z h142 b142 k142 .char (8 : Int32) [(.int (0 : Int32)), (.int (0 : Int32)), (.int (0 : Int32)), (.int (0 : Int32)), (.int (0 : Int32)), (.int (0 : Int32)), (.int (0 : Int32)), (.int (0 : Int32))] (.int (0 : Int32)) := (Arv.new A142 (by decide)).pad (pad_rep [] (.int (0 : Int32)) 8)
                    refine Go.st (T' := T142) (g' := (mkF m 315 #[.val (.ref b), .val (.int n)] [(.ref b142), (.ref b141), (.ref b141)])) (fun _ zk => st142 _ zk) ?_
                    refine Go.st (T' := T142) (g' := (mkF m 316 #[.val (.ref b), .val (.int n)] [(.ref b142), (.ref b142), (.ref b141), (.ref b141)])) (fun _ zk => XS.dup X142.here hx rfl (hb hby d1_315) rfl rfl zk) ?_
                    refine Go.st (T' := T142) (g' := (mkF m 317 #[.val (.ref b), .val (.int n)] [(.int (0 : Int32)), (.ref b142), (.ref b142), (.ref b141), (.ref b141)])) (fun _ zk => XS.iconst X142.here hx rfl (hb hby d1_316) zk) ?_
                    refine Go.st (T' := T142) (g' := (mkF m 318 #[.val (.ref b), .val (.int n)] [(.ref b), (.int (0 : Int32)), (.ref b142), (.ref b142), (.ref b141), (.ref b141)])) (fun _ zk => XS.aloadN X142.here hx rfl (hb hby d1_317) rfl rfl zk) ?_
                    refine Go.st (T' := T142) (g' := (mkF m 319 #[.val (.ref b), .val (.int n)] [(.int (0 : Int32)), (.ref b), (.int (0 : Int32)), (.ref b142), (.ref b142), (.ref b141), (.ref b141)])) (fun _ zk => XS.iconst X142.here hx rfl (hb hby d1_318) zk) ?_
                    have xt143 : Ext h0 h142 := (E141.tr E142)
                    have f144 := VC.ext xt143
                    refine Go.st (T' := T142) (g' := (mkF m 320 #[.val (.ref b), .val (.int n)] [(.int (cs.getD 0 0)), (.int (0 : Int32)), (.ref b142), (.ref b142), (.ref b141), (.ref b141)])) (fun _ zk => ldCV X142 hx hZ e142 f144 (j := (0 : Int32)) ⟨by decide, by decide⟩ (v := (.int (cs.getD 0 0))) (own_getD cs 0) (g := (mkF m 319 #[.val (.ref b), .val (.int n)] [(.int (0 : Int32)), (.ref b), (.int (0 : Int32)), (.ref b142), (.ref b142), (.ref b141), (.ref b141)])) rfl (rest := [(.int (0 : Int32)), (.ref b142), (.ref b142), (.ref b141), (.ref b141)]) rfl (hb hby d1_319) zk) ?_
                    obtain ⟨T145, h145, X145, e145, W145, V145, st145⟩ := stCV X142 hx hZ e142 V142 (j := (0 : Int32)) (i := 0) (by decide) rfl (Nat.le_of_ble_eq_true rfl) (g := (mkF m 320 #[.val (.ref b), .val (.int n)] [(.int (cs.getD 0 0)), (.int (0 : Int32)), (.ref b142), (.ref b142), (.ref b141), (.ref b141)])) rfl rfl (hb hby d1_320)
                    rw [nar_cid (x := cs.getD 0 0) (own_rg hr hcs (by decide))] at V145
                    have V145' : Arv Z h145 b142 k142 .char (8 : Int32) [(.int (cs.getD 0 0)), (.int (0 : Int32)), (.int (0 : Int32)), (.int (0 : Int32)), (.int (0 : Int32)), (.int (0 : Int32)), (.int (0 : Int32)), (.int (0 : Int32))] (.int (0 : Int32)) := V145
                    have N145 := Fr.snoc X145 N0 (Nat.le_trans Z0 (Nat.le_trans E141.1 (Nat.le_of_eq g142.symm)))
                    refine Go.st (T' := T145) (g' := (mkF m 321 #[.val (.ref b), .val (.int n)] [(.ref b142), (.ref b141), (.ref b141)])) (fun _ zk => st145 _ zk) ?_
                    refine Go.st (T' := T145) (g' := (mkF m 322 #[.val (.ref b), .val (.int n)] [(.ref b142), (.ref b142), (.ref b141), (.ref b141)])) (fun _ zk => XS.dup X145.here hx rfl (hb hby d1_321) rfl rfl zk) ?_
                    refine Go.st (T' := T145) (g' := (mkF m 323 #[.val (.ref b), .val (.int n)] [(.int (1 : Int32)), (.ref b142), (.ref b142), (.ref b141), (.ref b141)])) (fun _ zk => XS.iconst X145.here hx rfl (hb hby d1_322) zk) ?_
                    refine Go.st (T' := T145) (g' := (mkF m 324 #[.val (.ref b), .val (.int n)] [(.ref b), (.int (1 : Int32)), (.ref b142), (.ref b142), (.ref b141), (.ref b141)])) (fun _ zk => XS.aloadN X145.here hx rfl (hb hby d1_323) rfl rfl zk) ?_
                    refine Go.st (T' := T145) (g' := (mkF m 325 #[.val (.ref b), .val (.int n)] [(.int (1 : Int32)), (.ref b), (.int (1 : Int32)), (.ref b142), (.ref b142), (.ref b141), (.ref b141)])) (fun _ zk => XS.iconst X145.here hx rfl (hb hby d1_324) zk) ?_
                    have f146 := (f144.other W145 (ne_lt VC.lt E141.1 (Nat.le_of_eq g142.symm)))
                    refine Go.st (T' := T145) (g' := (mkF m 326 #[.val (.ref b), .val (.int n)] [(.int (cs.getD 1 0)), (.int (1 : Int32)), (.ref b142), (.ref b142), (.ref b141), (.ref b141)])) (fun _ zk => ldCV X145 hx hZ e145 f146 (j := (1 : Int32)) ⟨by decide, by decide⟩ (v := (.int (cs.getD 1 0))) (own_getD cs 1) (g := (mkF m 325 #[.val (.ref b), .val (.int n)] [(.int (1 : Int32)), (.ref b), (.int (1 : Int32)), (.ref b142), (.ref b142), (.ref b141), (.ref b141)])) rfl (rest := [(.int (1 : Int32)), (.ref b142), (.ref b142), (.ref b141), (.ref b141)]) rfl (hb hby d1_325) zk) ?_
                    obtain ⟨T147, h147, X147, e147, W147, V147, st147⟩ := stCV X145 hx hZ e145 V145' (j := (1 : Int32)) (i := 1) (by decide) rfl (Nat.le_of_ble_eq_true rfl) (g := (mkF m 326 #[.val (.ref b), .val (.int n)] [(.int (cs.getD 1 0)), (.int (1 : Int32)), (.ref b142), (.ref b142), (.ref b141), (.ref b141)])) rfl rfl (hb hby d1_326)
                    rw [nar_cid (x := cs.getD 1 0) (own_rg hr hcs (by decide))] at V147
                    have V147' : Arv Z h147 b142 k142 .char (8 : Int32) [(.int (cs.getD 0 0)), (.int (cs.getD 1 0)), (.int (0 : Int32)), (.int (0 : Int32)), (.int (0 : Int32)), (.int (0 : Int32)), (.int (0 : Int32)), (.int (0 : Int32))] (.int (0 : Int32)) := V147
                    have N147 := Fr.snoc X147 N145 (Nat.le_trans Z0 (Nat.le_trans E141.1 (Nat.le_of_eq g142.symm)))
                    refine Go.st (T' := T147) (g' := (mkF m 327 #[.val (.ref b), .val (.int n)] [(.ref b142), (.ref b141), (.ref b141)])) (fun _ zk => st147 _ zk) ?_
                    refine Go.st (T' := T147) (g' := (mkF m 328 #[.val (.ref b), .val (.int n)] [(.ref b142), (.ref b142), (.ref b141), (.ref b141)])) (fun _ zk => XS.dup X147.here hx rfl (hb hby d1_327) rfl rfl zk) ?_
                    refine Go.st (T' := T147) (g' := (mkF m 329 #[.val (.ref b), .val (.int n)] [(.int (2 : Int32)), (.ref b142), (.ref b142), (.ref b141), (.ref b141)])) (fun _ zk => XS.iconst X147.here hx rfl (hb hby d1_328) zk) ?_
                    refine Go.st (T' := T147) (g' := (mkF m 330 #[.val (.ref b), .val (.int n)] [(.ref b), (.int (2 : Int32)), (.ref b142), (.ref b142), (.ref b141), (.ref b141)])) (fun _ zk => XS.aloadN X147.here hx rfl (hb hby d1_329) rfl rfl zk) ?_
                    refine Go.st (T' := T147) (g' := (mkF m 331 #[.val (.ref b), .val (.int n)] [(.int (2 : Int32)), (.ref b), (.int (2 : Int32)), (.ref b142), (.ref b142), (.ref b141), (.ref b141)])) (fun _ zk => XS.iconst X147.here hx rfl (hb hby d1_330) zk) ?_
                    have f148 := (f146.other W147 (ne_lt VC.lt E141.1 (Nat.le_of_eq g142.symm)))
                    refine Go.st (T' := T147) (g' := (mkF m 332 #[.val (.ref b), .val (.int n)] [(.int (cs.getD 2 0)), (.int (2 : Int32)), (.ref b142), (.ref b142), (.ref b141), (.ref b141)])) (fun _ zk => ldCV X147 hx hZ e147 f148 (j := (2 : Int32)) ⟨by decide, by decide⟩ (v := (.int (cs.getD 2 0))) (own_getD cs 2) (g := (mkF m 331 #[.val (.ref b), .val (.int n)] [(.int (2 : Int32)), (.ref b), (.int (2 : Int32)), (.ref b142), (.ref b142), (.ref b141), (.ref b141)])) rfl (rest := [(.int (2 : Int32)), (.ref b142), (.ref b142), (.ref b141), (.ref b141)]) rfl (hb hby d1_331) zk) ?_
                    obtain ⟨T149, h149, X149, e149, W149, V149, st149⟩ := stCV X147 hx hZ e147 V147' (j := (2 : Int32)) (i := 2) (by decide) rfl (Nat.le_of_ble_eq_true rfl) (g := (mkF m 332 #[.val (.ref b), .val (.int n)] [(.int (cs.getD 2 0)), (.int (2 : Int32)), (.ref b142), (.ref b142), (.ref b141), (.ref b141)])) rfl rfl (hb hby d1_332)
                    rw [nar_cid (x := cs.getD 2 0) (own_rg hr hcs (by decide))] at V149
                    have V149' : Arv Z h149 b142 k142 .char (8 : Int32) [(.int (cs.getD 0 0)), (.int (cs.getD 1 0)), (.int (cs.getD 2 0)), (.int (0 : Int32)), (.int (0 : Int32)), (.int (0 : Int32)), (.int (0 : Int32)), (.int (0 : Int32))] (.int (0 : Int32)) := V149
                    have N149 := Fr.snoc X149 N147 (Nat.le_trans Z0 (Nat.le_trans E141.1 (Nat.le_of_eq g142.symm)))
                    refine Go.st (T' := T149) (g' := (mkF m 333 #[.val (.ref b), .val (.int n)] [(.ref b142), (.ref b141), (.ref b141)])) (fun _ zk => st149 _ zk) ?_
                    refine Go.st (T' := T149) (g' := (mkF m 334 #[.val (.ref b), .val (.int n)] [(.ref b142), (.ref b142), (.ref b141), (.ref b141)])) (fun _ zk => XS.dup X149.here hx rfl (hb hby d1_333) rfl rfl zk) ?_
                    refine Go.st (T' := T149) (g' := (mkF m 335 #[.val (.ref b), .val (.int n)] [(.int (3 : Int32)), (.ref b142), (.ref b142), (.ref b141), (.ref b141)])) (fun _ zk => XS.iconst X149.here hx rfl (hb hby d1_334) zk) ?_
                    refine Go.st (T' := T149) (g' := (mkF m 336 #[.val (.ref b), .val (.int n)] [(.ref b), (.int (3 : Int32)), (.ref b142), (.ref b142), (.ref b141), (.ref b141)])) (fun _ zk => XS.aloadN X149.here hx rfl (hb hby d1_335) rfl rfl zk) ?_
                    refine Go.st (T' := T149) (g' := (mkF m 337 #[.val (.ref b), .val (.int n)] [(.int (3 : Int32)), (.ref b), (.int (3 : Int32)), (.ref b142), (.ref b142), (.ref b141), (.ref b141)])) (fun _ zk => XS.iconst X149.here hx rfl (hb hby d1_336) zk) ?_
                    have f150 := (f148.other W149 (ne_lt VC.lt E141.1 (Nat.le_of_eq g142.symm)))
                    refine Go.st (T' := T149) (g' := (mkF m 338 #[.val (.ref b), .val (.int n)] [(.int (cs.getD 3 0)), (.int (3 : Int32)), (.ref b142), (.ref b142), (.ref b141), (.ref b141)])) (fun _ zk => ldCV X149 hx hZ e149 f150 (j := (3 : Int32)) ⟨by decide, by decide⟩ (v := (.int (cs.getD 3 0))) (own_getD cs 3) (g := (mkF m 337 #[.val (.ref b), .val (.int n)] [(.int (3 : Int32)), (.ref b), (.int (3 : Int32)), (.ref b142), (.ref b142), (.ref b141), (.ref b141)])) rfl (rest := [(.int (3 : Int32)), (.ref b142), (.ref b142), (.ref b141), (.ref b141)]) rfl (hb hby d1_337) zk) ?_
                    obtain ⟨T151, h151, X151, e151, W151, V151, st151⟩ := stCV X149 hx hZ e149 V149' (j := (3 : Int32)) (i := 3) (by decide) rfl (Nat.le_of_ble_eq_true rfl) (g := (mkF m 338 #[.val (.ref b), .val (.int n)] [(.int (cs.getD 3 0)), (.int (3 : Int32)), (.ref b142), (.ref b142), (.ref b141), (.ref b141)])) rfl rfl (hb hby d1_338)
                    rw [nar_cid (x := cs.getD 3 0) (own_rg hr hcs (by decide))] at V151
                    have V151' : Arv Z h151 b142 k142 .char (8 : Int32) [(.int (cs.getD 0 0)), (.int (cs.getD 1 0)), (.int (cs.getD 2 0)), (.int (cs.getD 3 0)), (.int (0 : Int32)), (.int (0 : Int32)), (.int (0 : Int32)), (.int (0 : Int32))] (.int (0 : Int32)) := V151
                    have N151 := Fr.snoc X151 N149 (Nat.le_trans Z0 (Nat.le_trans E141.1 (Nat.le_of_eq g142.symm)))
                    refine Go.st (T' := T151) (g' := (mkF m 339 #[.val (.ref b), .val (.int n)] [(.ref b142), (.ref b141), (.ref b141)])) (fun _ zk => st151 _ zk) ?_
                    refine Go.st (T' := T151) (g' := (mkF m 340 #[.val (.ref b), .val (.int n)] [(.ref b142), (.ref b142), (.ref b141), (.ref b141)])) (fun _ zk => XS.dup X151.here hx rfl (hb hby d1_339) rfl rfl zk) ?_
                    refine Go.st (T' := T151) (g' := (mkF m 341 #[.val (.ref b), .val (.int n)] [(.int (4 : Int32)), (.ref b142), (.ref b142), (.ref b141), (.ref b141)])) (fun _ zk => XS.iconst X151.here hx rfl (hb hby d1_340) zk) ?_
                    refine Go.st (T' := T151) (g' := (mkF m 342 #[.val (.ref b), .val (.int n)] [(.ref b), (.int (4 : Int32)), (.ref b142), (.ref b142), (.ref b141), (.ref b141)])) (fun _ zk => XS.aloadN X151.here hx rfl (hb hby d1_341) rfl rfl zk) ?_
                    refine Go.st (T' := T151) (g' := (mkF m 343 #[.val (.ref b), .val (.int n)] [(.int (4 : Int32)), (.ref b), (.int (4 : Int32)), (.ref b142), (.ref b142), (.ref b141), (.ref b141)])) (fun _ zk => XS.iconst X151.here hx rfl (hb hby d1_342) zk) ?_
                    have f152 := (f150.other W151 (ne_lt VC.lt E141.1 (Nat.le_of_eq g142.symm)))
                    refine Go.st (T' := T151) (g' := (mkF m 344 #[.val (.ref b), .val (.int n)] [(.int (cs.getD 4 0)), (.int (4 : Int32)), (.ref b142), (.ref b142), (.ref b141), (.ref b141)])) (fun _ zk => ldCV X151 hx hZ e151 f152 (j := (4 : Int32)) ⟨by decide, by decide⟩ (v := (.int (cs.getD 4 0))) (own_getD cs 4) (g := (mkF m 343 #[.val (.ref b), .val (.int n)] [(.int (4 : Int32)), (.ref b), (.int (4 : Int32)), (.ref b142), (.ref b142), (.ref b141), (.ref b141)])) rfl (rest := [(.int (4 : Int32)), (.ref b142), (.ref b142), (.ref b141), (.ref b141)]) rfl (hb hby d1_343) zk) ?_
                    obtain ⟨T153, h153, X153, e153, W153, V153, st153⟩ := stCV X151 hx hZ e151 V151' (j := (4 : Int32)) (i := 4) (by decide) rfl (Nat.le_of_ble_eq_true rfl) (g := (mkF m 344 #[.val (.ref b), .val (.int n)] [(.int (cs.getD 4 0)), (.int (4 : Int32)), (.ref b142), (.ref b142), (.ref b141), (.ref b141)])) rfl rfl (hb hby d1_344)
                    rw [nar_cid (x := cs.getD 4 0) (own_rg hr hcs (by decide))] at V153
                    have V153' : Arv Z h153 b142 k142 .char (8 : Int32) [(.int (cs.getD 0 0)), (.int (cs.getD 1 0)), (.int (cs.getD 2 0)), (.int (cs.getD 3 0)), (.int (cs.getD 4 0)), (.int (0 : Int32)), (.int (0 : Int32)), (.int (0 : Int32))] (.int (0 : Int32)) := V153
                    have N153 := Fr.snoc X153 N151 (Nat.le_trans Z0 (Nat.le_trans E141.1 (Nat.le_of_eq g142.symm)))
                    refine Go.st (T' := T153) (g' := (mkF m 345 #[.val (.ref b), .val (.int n)] [(.ref b142), (.ref b141), (.ref b141)])) (fun _ zk => st153 _ zk) ?_
                    refine Go.st (T' := T153) (g' := (mkF m 346 #[.val (.ref b), .val (.int n)] [(.ref b142), (.ref b142), (.ref b141), (.ref b141)])) (fun _ zk => XS.dup X153.here hx rfl (hb hby d1_345) rfl rfl zk) ?_
                    refine Go.st (T' := T153) (g' := (mkF m 347 #[.val (.ref b), .val (.int n)] [(.int (5 : Int32)), (.ref b142), (.ref b142), (.ref b141), (.ref b141)])) (fun _ zk => XS.iconst X153.here hx rfl (hb hby d1_346) zk) ?_
                    refine Go.st (T' := T153) (g' := (mkF m 348 #[.val (.ref b), .val (.int n)] [(.ref b), (.int (5 : Int32)), (.ref b142), (.ref b142), (.ref b141), (.ref b141)])) (fun _ zk => XS.aloadN X153.here hx rfl (hb hby d1_347) rfl rfl zk) ?_
                    refine Go.st (T' := T153) (g' := (mkF m 349 #[.val (.ref b), .val (.int n)] [(.int (5 : Int32)), (.ref b), (.int (5 : Int32)), (.ref b142), (.ref b142), (.ref b141), (.ref b141)])) (fun _ zk => XS.iconst X153.here hx rfl (hb hby d1_348) zk) ?_
                    have f154 := (f152.other W153 (ne_lt VC.lt E141.1 (Nat.le_of_eq g142.symm)))
                    refine Go.st (T' := T153) (g' := (mkF m 350 #[.val (.ref b), .val (.int n)] [(.int (cs.getD 5 0)), (.int (5 : Int32)), (.ref b142), (.ref b142), (.ref b141), (.ref b141)])) (fun _ zk => ldCV X153 hx hZ e153 f154 (j := (5 : Int32)) ⟨by decide, by decide⟩ (v := (.int (cs.getD 5 0))) (own_getD cs 5) (g := (mkF m 349 #[.val (.ref b), .val (.int n)] [(.int (5 : Int32)), (.ref b), (.int (5 : Int32)), (.ref b142), (.ref b142), (.ref b141), (.ref b141)])) rfl (rest := [(.int (5 : Int32)), (.ref b142), (.ref b142), (.ref b141), (.ref b141)]) rfl (hb hby d1_349) zk) ?_
                    obtain ⟨T155, h155, X155, e155, W155, V155, st155⟩ := stCV X153 hx hZ e153 V153' (j := (5 : Int32)) (i := 5) (by decide) rfl (Nat.le_of_ble_eq_true rfl) (g := (mkF m 350 #[.val (.ref b), .val (.int n)] [(.int (cs.getD 5 0)), (.int (5 : Int32)), (.ref b142), (.ref b142), (.ref b141), (.ref b141)])) rfl rfl (hb hby d1_350)
                    rw [nar_cid (x := cs.getD 5 0) (own_rg hr hcs (by decide))] at V155
                    have V155' : Arv Z h155 b142 k142 .char (8 : Int32) [(.int (cs.getD 0 0)), (.int (cs.getD 1 0)), (.int (cs.getD 2 0)), (.int (cs.getD 3 0)), (.int (cs.getD 4 0)), (.int (cs.getD 5 0)), (.int (0 : Int32)), (.int (0 : Int32))] (.int (0 : Int32)) := V155
                    have N155 := Fr.snoc X155 N153 (Nat.le_trans Z0 (Nat.le_trans E141.1 (Nat.le_of_eq g142.symm)))
                    refine Go.st (T' := T155) (g' := (mkF m 351 #[.val (.ref b), .val (.int n)] [(.ref b142), (.ref b141), (.ref b141)])) (fun _ zk => st155 _ zk) ?_
                    refine Go.st (T' := T155) (g' := (mkF m 352 #[.val (.ref b), .val (.int n)] [(.ref b142), (.ref b142), (.ref b141), (.ref b141)])) (fun _ zk => XS.dup X155.here hx rfl (hb hby d1_351) rfl rfl zk) ?_
                    refine Go.st (T' := T155) (g' := (mkF m 354 #[.val (.ref b), .val (.int n)] [(.int (6 : Int32)), (.ref b142), (.ref b142), (.ref b141), (.ref b141)])) (fun _ zk => XS.bipush X155.here hx rfl (hb hby d1_352) zk) ?_
                    refine Go.st (T' := T155) (g' := (mkF m 355 #[.val (.ref b), .val (.int n)] [(.ref b), (.int (6 : Int32)), (.ref b142), (.ref b142), (.ref b141), (.ref b141)])) (fun _ zk => XS.aloadN X155.here hx rfl (hb hby d1_354) rfl rfl zk) ?_
                    refine Go.st (T' := T155) (g' := (mkF m 357 #[.val (.ref b), .val (.int n)] [(.int (6 : Int32)), (.ref b), (.int (6 : Int32)), (.ref b142), (.ref b142), (.ref b141), (.ref b141)])) (fun _ zk => XS.bipush X155.here hx rfl (hb hby d1_355) zk) ?_
                    have f156 := (f154.other W155 (ne_lt VC.lt E141.1 (Nat.le_of_eq g142.symm)))
                    refine Go.st (T' := T155) (g' := (mkF m 358 #[.val (.ref b), .val (.int n)] [(.int (cs.getD 6 0)), (.int (6 : Int32)), (.ref b142), (.ref b142), (.ref b141), (.ref b141)])) (fun _ zk => ldCV X155 hx hZ e155 f156 (j := (6 : Int32)) ⟨by decide, by decide⟩ (v := (.int (cs.getD 6 0))) (own_getD cs 6) (g := (mkF m 357 #[.val (.ref b), .val (.int n)] [(.int (6 : Int32)), (.ref b), (.int (6 : Int32)), (.ref b142), (.ref b142), (.ref b141), (.ref b141)])) rfl (rest := [(.int (6 : Int32)), (.ref b142), (.ref b142), (.ref b141), (.ref b141)]) rfl (hb hby d1_357) zk) ?_
                    obtain ⟨T157, h157, X157, e157, W157, V157, st157⟩ := stCV X155 hx hZ e155 V155' (j := (6 : Int32)) (i := 6) (by decide) rfl (Nat.le_of_ble_eq_true rfl) (g := (mkF m 358 #[.val (.ref b), .val (.int n)] [(.int (cs.getD 6 0)), (.int (6 : Int32)), (.ref b142), (.ref b142), (.ref b141), (.ref b141)])) rfl rfl (hb hby d1_358)
                    rw [nar_cid (x := cs.getD 6 0) (own_rg hr hcs (by decide))] at V157
                    have V157' : Arv Z h157 b142 k142 .char (8 : Int32) [(.int (cs.getD 0 0)), (.int (cs.getD 1 0)), (.int (cs.getD 2 0)), (.int (cs.getD 3 0)), (.int (cs.getD 4 0)), (.int (cs.getD 5 0)), (.int (cs.getD 6 0)), (.int (0 : Int32))] (.int (0 : Int32)) := V157
                    have N157 := Fr.snoc X157 N155 (Nat.le_trans Z0 (Nat.le_trans E141.1 (Nat.le_of_eq g142.symm)))
                    refine Go.st (T' := T157) (g' := (mkF m 359 #[.val (.ref b), .val (.int n)] [(.ref b142), (.ref b141), (.ref b141)])) (fun _ zk => st157 _ zk) ?_
                    refine Go.st (T' := T157) (g' := (mkF m 360 #[.val (.ref b), .val (.int n)] [(.ref b142), (.ref b142), (.ref b141), (.ref b141)])) (fun _ zk => XS.dup X157.here hx rfl (hb hby d1_359) rfl rfl zk) ?_
                    refine Go.st (T' := T157) (g' := (mkF m 362 #[.val (.ref b), .val (.int n)] [(.int (7 : Int32)), (.ref b142), (.ref b142), (.ref b141), (.ref b141)])) (fun _ zk => XS.bipush X157.here hx rfl (hb hby d1_360) zk) ?_
                    refine Go.st (T' := T157) (g' := (mkF m 363 #[.val (.ref b), .val (.int n)] [(.ref b), (.int (7 : Int32)), (.ref b142), (.ref b142), (.ref b141), (.ref b141)])) (fun _ zk => XS.aloadN X157.here hx rfl (hb hby d1_362) rfl rfl zk) ?_
                    refine Go.st (T' := T157) (g' := (mkF m 365 #[.val (.ref b), .val (.int n)] [(.int (7 : Int32)), (.ref b), (.int (7 : Int32)), (.ref b142), (.ref b142), (.ref b141), (.ref b141)])) (fun _ zk => XS.bipush X157.here hx rfl (hb hby d1_363) zk) ?_
                    have f158 := (f156.other W157 (ne_lt VC.lt E141.1 (Nat.le_of_eq g142.symm)))
                    refine Go.st (T' := T157) (g' := (mkF m 366 #[.val (.ref b), .val (.int n)] [(.int (cs.getD 7 0)), (.int (7 : Int32)), (.ref b142), (.ref b142), (.ref b141), (.ref b141)])) (fun _ zk => ldCV X157 hx hZ e157 f158 (j := (7 : Int32)) ⟨by decide, by decide⟩ (v := (.int (cs.getD 7 0))) (own_getD cs 7) (g := (mkF m 365 #[.val (.ref b), .val (.int n)] [(.int (7 : Int32)), (.ref b), (.int (7 : Int32)), (.ref b142), (.ref b142), (.ref b141), (.ref b141)])) rfl (rest := [(.int (7 : Int32)), (.ref b142), (.ref b142), (.ref b141), (.ref b141)]) rfl (hb hby d1_365) zk) ?_
                    obtain ⟨T159, h159, X159, e159, W159, V159, st159⟩ := stCV X157 hx hZ e157 V157' (j := (7 : Int32)) (i := 7) (by decide) rfl (Nat.le_of_ble_eq_true rfl) (g := (mkF m 366 #[.val (.ref b), .val (.int n)] [(.int (cs.getD 7 0)), (.int (7 : Int32)), (.ref b142), (.ref b142), (.ref b141), (.ref b141)])) rfl rfl (hb hby d1_366)
                    rw [nar_cid (x := cs.getD 7 0) (own_rg hr hcs (by decide))] at V159
                    have V159' : Arv Z h159 b142 k142 .char (8 : Int32) [(.int (cs.getD 0 0)), (.int (cs.getD 1 0)), (.int (cs.getD 2 0)), (.int (cs.getD 3 0)), (.int (cs.getD 4 0)), (.int (cs.getD 5 0)), (.int (cs.getD 6 0)), (.int (cs.getD 7 0))] (.int (0 : Int32)) := V159
                    have N159 := Fr.snoc X159 N157 (Nat.le_trans Z0 (Nat.le_trans E141.1 (Nat.le_of_eq g142.symm)))
                    refine Go.st (T' := T159) (g' := (mkF m 367 #[.val (.ref b), .val (.int n)] [(.ref b142), (.ref b141), (.ref b141)])) (fun _ zk => st159 _ zk) ?_
                    have hrg : ∀ x ∈ [(cs.getD 0 0), (cs.getD 1 0), (cs.getD 2 0), (cs.getD 3 0), (cs.getD 4 0), (cs.getD 5 0), (cs.getD 6 0), (cs.getD 7 0)], 0 ≤ x.toInt ∧ x.toInt < 65536 := by
                      simp only [List.forall_mem_cons]
                      exact ⟨own_rg hr hcs (by decide), own_rg hr hcs (by decide), own_rg hr hcs (by decide), own_rg hr hcs (by decide), own_rg hr hcs (by decide), own_rg hr hcs (by decide), own_rg hr hcs (by decide), own_rg hr hcs (by decide), fun _ q => nomatch q⟩
                    have xt160 : Ext h141 h159 := ((((((((E142.thenW W145 (Nat.le_of_eq g142.symm)).thenW W147 (Nat.le_of_eq g142.symm)).thenW W149 (Nat.le_of_eq g142.symm)).thenW W151 (Nat.le_of_eq g142.symm)).thenW W153 (Nat.le_of_eq g142.symm)).thenW W155 (Nat.le_of_eq g142.symm)).thenW W157 (Nat.le_of_eq g142.symm)).thenW W159 (Nat.le_of_eq g142.symm))
                    have f161 := A141.ext xt160
                    have f162 := F141_coder.ext xt160
                    have f163 := F141_value.ext xt160
                    have xt165 : Ext h0 h159 := ((((((((xt143.thenW W145 (Nat.le_trans E141.1 (Nat.le_of_eq g142.symm))).thenW W147 (Nat.le_trans E141.1 (Nat.le_of_eq g142.symm))).thenW W149 (Nat.le_trans E141.1 (Nat.le_of_eq g142.symm))).thenW W151 (Nat.le_trans E141.1 (Nat.le_of_eq g142.symm))).thenW W153 (Nat.le_trans E141.1 (Nat.le_of_eq g142.symm))).thenW W155 (Nat.le_trans E141.1 (Nat.le_of_eq g142.symm))).thenW W157 (Nat.le_trans E141.1 (Nat.le_of_eq g142.symm))).thenW W159 (Nat.le_trans E141.1 (Nat.le_of_eq g142.symm)))
                    have f166 := O0.ext xt165
                    refine Go.callSp (y := (⟨"java/lang/String", "<init>", "([C)V"⟩ : MethodName)) (a := b141) X159 hx hZ hown e159 rfl (w10 hw) (w11 hw) (w9 hw) (w12 hw) (by decide) (argsL := [(.ref b142)]) (rest := [(.ref b141)]) (W := 1) (rm_init1W l Z a0 hw [] b141 b142 k142 [(cs.getD 0 0), (cs.getD 1 0), (cs.getD 2 0), (cs.getD 3 0), (cs.getD 4 0), (cs.getD 5 0), (cs.getD 6 0), (cs.getD 7 0)] 8 zc h159 n0 (Nat.le_trans Z0 (Nat.le_trans (Nat.le_trans (Nat.le_trans (Nat.le_trans (Nat.le_trans (Nat.le_trans (Nat.le_trans (Nat.le_trans (Nat.le_trans E141.1 E142.1) (Keep.of_wr W145).1) (Keep.of_wr W147).1) (Keep.of_wr W149).1) (Keep.of_wr W151).1) (Keep.of_wr W153).1) (Keep.of_wr W155).1) (Keep.of_wr W157).1) (Keep.of_wr W159).1)) f166 f161 (Nat.le_trans Z0 (Nat.le_trans (Nat.le_refl _) (Nat.le_of_eq g141.symm))) f162 f163 V159' (by decide) rfl (by decide) (by decide) hrg CS hz UA UH UL) rfl (lenOf pd25 rfl) rfl (by rw [hml]; rfl) rfl (by show 2 * 0 + _ ≤ _; exact Nat.le_of_eq rfl) (by decide) (by decide) (by decide) (by decide) (hb hby d1_367) ?_
                    intro v164 T164 h164 L164 X164 e164 q164
                    obtain ⟨hv164, Nf164, K164, SC⟩ := q164
                    subst hv164
                    have N164 := Fr.app N159 Nf164
                    show Go p.tables e below _ T164 (mkF m 370 #[.val (.ref b), .val (.int n)] [(.ref b141)])
                    have xt167 : Ext h0 h164 := (xt165.thenK K164 (allS (P := fun x => h0.size ≤ x) (Nat.le_of_eq g141.symm) all0))
                    have cr168 := chrE hA xt167
                    refine Go.retAS X164 hx hlk hS (Nat.le_trans (Nat.zero_le _) (Nat.le_trans (Nat.le_trans (Nat.le_trans (Nat.le_trans (Nat.le_trans (Nat.le_trans (Nat.le_trans (Nat.le_trans (Nat.le_trans (Nat.le_trans E141.1 E142.1) (Keep.of_wr W145).1) (Keep.of_wr W147).1) (Keep.of_wr W149).1) (Keep.of_wr W151).1) (Keep.of_wr W153).1) (Keep.of_wr W155).1) (Keep.of_wr W157).1) (Keep.of_wr W159).1) K164.1)) cr168 hZ hEL hret rfl rfl (hb hby d1_370) (by decide) (by decide) e164 ?_
                    exact ⟨_, [(cs.getD 0 0), (cs.getD 1 0), (cs.getD 2 0), (cs.getD 3 0), (cs.getD 4 0), (cs.getD 5 0), (cs.getD 6 0), (cs.getD 7 0)], rfl, N164, xt167, (Nat.le_trans (Nat.le_refl _) (Nat.le_of_eq g141.symm)), Nat.le_of_ble_eq_true rfl, hrg, SC⟩
                  · refine Go.st (T' := s₁) (g' := (mkF m 371 #[.val (.ref b), .val (.int n)] [])) (fun _ zk => XS.icmpYes X0.here hx rfl (pc0 := 304) (pc' := 371) rfl (hb hby d1_304) rfl (feq hc304).2 (by decide) (by decide) zk) ?_
                    refine Go.st (T' := s₁) (g' := (mkF m 372 #[.val (.ref b), .val (.int n)] [(.int n)])) (fun _ zk => XS.iloadN X0.here hx rfl (hb hby d1_371) rfl zk) ?_
                    refine Go.st (T' := s₁) (g' := (mkF m 374 #[.val (.ref b), .val (.int n)] [(.int (9 : Int32)), (.int n)])) (fun _ zk => XS.bipush X0.here hx rfl (hb hby d1_372) zk) ?_
                    by_cases hc374 : n = (9 : Int32)
                    · refine Go.st (T' := s₁) (g' := (mkF m 377 #[.val (.ref b), .val (.int n)] [])) (fun _ zk => XS.icmpNo X0.here hx rfl (hb hby d1_374) rfl (teq hc374).2 zk) ?_
                      obtain ⟨T169, h169, X169, e169, E169, A169, D169, -, st169⟩ := newO X0 hx hZ hown (w7 hw) (w8 hw) (w9 hw) e0 (g := (mkF m 377 #[.val (.ref b), .val (.int n)] [])) rfl (hb hby d1_377) (by decide) (by decide)
                      obtain ⟨b169, g169⟩ : ∃ z, z = h0.size := ⟨_, rfl⟩
                      rw [← g169] at A169 D169 st169
                      have F169_value : Fld Z h169 b169 "java/lang/String" "value" "[B" .null := D169 (Or.inr (w22 hw)) (ty := (.array .byte)) (by decide)
                      have F169_coder : Fld Z h169 b169 "java/lang/String" "coder" "B" (.int (0 : Int32)) := D169 (Or.inr (w23 hw)) (ty := .byte) (by decide)
                      refine Go.st (T' := T169) (g' := (mkF m 380 #[.val (.ref b), .val (.int n)] [(.ref b169)])) (fun _ zk => st169 _ zk) ?_
                      refine Go.st (T' := T169) (g' := (mkF m 381 #[.val (.ref b), .val (.int n)] [(.ref b169), (.ref b169)])) (fun _ zk => XS.dup X169.here hx rfl (hb hby d1_380) rfl rfl zk) ?_
                      refine Go.st (T' := T169) (g' := (mkF m 383 #[.val (.ref b), .val (.int n)] [(.int (9 : Int32)), (.ref b169), (.ref b169)])) (fun _ zk => XS.bipush X169.here hx rfl (hb hby d1_381) zk) ?_
                      obtain ⟨T170, h170, k170, X170, e170, E170, A170, st170⟩ := newP (aty := .char) X169 hx hZ (w2 hw) e169 (g := (mkF m 383 #[.val (.ref b), .val (.int n)] [(.int (9 : Int32)), (.ref b169), (.ref b169)])) rfl (hb hby d1_383) rfl (by decide) (cap := 9) (by decide) (by decide) (by decide) (by decide)
                      obtain ⟨b170, g170⟩ : ∃ z, z = h169.size := ⟨_, rfl⟩
                      rw [← g170] at A170 st170
                      have V170 : Arv Z h170 b170 k170 .char (9 : Int32) [(.int (0 : Int32)), (.int (0 : Int32)), (.int (0 : Int32)), (.int (0 : Int32)), (.int (0 : Int32)), (.int (0 : Int32)), (.int (0 : Int32)), (.int (0 : Int32)), (.int (0 : Int32))] (.int (0 : Int32)) := (Arv.new A170 (by decide)).pad (pad_rep [] (.int (0 : Int32)) 9)
                      refine Go.st (T' := T170) (g' := (mkF m 385 #[.val (.ref b), .val (.int n)] [(.ref b170), (.ref b169), (.ref b169)])) (fun _ zk => st170 _ zk) ?_
                      refine Go.st (T' := T170) (g' := (mkF m 386 #[.val (.ref b), .val (.int n)] [(.ref b170), (.ref b170), (.ref b169), (.ref b169)])) (fun _ zk => XS.dup X170.here hx rfl (hb hby d1_385) rfl rfl zk) ?_
                      refine Go.st (T' := T170) (g' := (mkF m 387 #[.val (.ref b), .val (.int n)] [(.int (0 : Int32)), (.ref b170), (.ref b170), (.ref b169), (.ref b169)])) (fun _ zk => XS.iconst X170.here hx rfl (hb hby d1_386) zk) ?_
                      refine Go.st (T' := T170) (g' := (mkF m 388 #[.val (.ref b), .val (.int n)] [(.ref b), (.int (0 : Int32)), (.ref b170), (.ref b170), (.ref b169), (.ref b169)])) (fun _ zk => XS.aloadN X170.here hx rfl (hb hby d1_387) rfl rfl zk) ?_
                      refine Go.st (T' := T170) (g' := (mkF m 389 #[.val (.ref b), .val (.int n)] [(.int (0 : Int32)), (.ref b), (.int (0 : Int32)), (.ref b170), (.ref b170), (.ref b169), (.ref b169)])) (fun _ zk => XS.iconst X170.here hx rfl (hb hby d1_388) zk) ?_
                      have xt171 : Ext h0 h170 := (E169.tr E170)
                      have f172 := VC.ext xt171
                      refine Go.st (T' := T170) (g' := (mkF m 390 #[.val (.ref b), .val (.int n)] [(.int (cs.getD 0 0)), (.int (0 : Int32)), (.ref b170), (.ref b170), (.ref b169), (.ref b169)])) (fun _ zk => ldCV X170 hx hZ e170 f172 (j := (0 : Int32)) ⟨by decide, by decide⟩ (v := (.int (cs.getD 0 0))) (own_getD cs 0) (g := (mkF m 389 #[.val (.ref b), .val (.int n)] [(.int (0 : Int32)), (.ref b), (.int (0 : Int32)), (.ref b170), (.ref b170), (.ref b169), (.ref b169)])) rfl (rest := [(.int (0 : Int32)), (.ref b170), (.ref b170), (.ref b169), (.ref b169)]) rfl (hb hby d1_389) zk) ?_
                      obtain ⟨T173, h173, X173, e173, W173, V173, st173⟩ := stCV X170 hx hZ e170 V170 (j := (0 : Int32)) (i := 0) (by decide) rfl (Nat.le_of_ble_eq_true rfl) (g := (mkF m 390 #[.val (.ref b), .val (.int n)] [(.int (cs.getD 0 0)), (.int (0 : Int32)), (.ref b170), (.ref b170), (.ref b169), (.ref b169)])) rfl rfl (hb hby d1_390)
                      rw [nar_cid (x := cs.getD 0 0) (own_rg hr hcs (by decide))] at V173
                      have V173' : Arv Z h173 b170 k170 .char (9 : Int32) [(.int (cs.getD 0 0)), (.int (0 : Int32)), (.int (0 : Int32)), (.int (0 : Int32)), (.int (0 : Int32)), (.int (0 : Int32)), (.int (0 : Int32)), (.int (0 : Int32)), (.int (0 : Int32))] (.int (0 : Int32)) := V173
                      have N173 := Fr.snoc X173 N0 (Nat.le_trans Z0 (Nat.le_trans E169.1 (Nat.le_of_eq g170.symm)))
                      refine Go.st (T' := T173) (g' := (mkF m 391 #[.val (.ref b), .val (.int n)] [(.ref b170), (.ref b169), (.ref b169)])) (fun _ zk => st173 _ zk) ?_
                      refine Go.st (T' := T173) (g' := (mkF m 392 #[.val (.ref b), .val (.int n)] [(.ref b170), (.ref b170), (.ref b169), (.ref b169)])) (fun _ zk => XS.dup X173.here hx rfl (hb hby d1_391) rfl rfl zk) ?_
                      refine Go.st (T' := T173) (g' := (mkF m 393 #[.val (.ref b), .val (.int n)] [(.int (1 : Int32)), (.ref b170), (.ref b170), (.ref b169), (.ref b169)])) (fun _ zk => XS.iconst X173.here hx rfl (hb hby d1_392) zk) ?_
                      refine Go.st (T' := T173) (g' := (mkF m 394 #[.val (.ref b), .val (.int n)] [(.ref b), (.int (1 : Int32)), (.ref b170), (.ref b170), (.ref b169), (.ref b169)])) (fun _ zk => XS.aloadN X173.here hx rfl (hb hby d1_393) rfl rfl zk) ?_
                      refine Go.st (T' := T173) (g' := (mkF m 395 #[.val (.ref b), .val (.int n)] [(.int (1 : Int32)), (.ref b), (.int (1 : Int32)), (.ref b170), (.ref b170), (.ref b169), (.ref b169)])) (fun _ zk => XS.iconst X173.here hx rfl (hb hby d1_394) zk) ?_
                      have f174 := (f172.other W173 (ne_lt VC.lt E169.1 (Nat.le_of_eq g170.symm)))
                      refine Go.st (T' := T173) (g' := (mkF m 396 #[.val (.ref b), .val (.int n)] [(.int (cs.getD 1 0)), (.int (1 : Int32)), (.ref b170), (.ref b170), (.ref b169), (.ref b169)])) (fun _ zk => ldCV X173 hx hZ e173 f174 (j := (1 : Int32)) ⟨by decide, by decide⟩ (v := (.int (cs.getD 1 0))) (own_getD cs 1) (g := (mkF m 395 #[.val (.ref b), .val (.int n)] [(.int (1 : Int32)), (.ref b), (.int (1 : Int32)), (.ref b170), (.ref b170), (.ref b169), (.ref b169)])) rfl (rest := [(.int (1 : Int32)), (.ref b170), (.ref b170), (.ref b169), (.ref b169)]) rfl (hb hby d1_395) zk) ?_
                      obtain ⟨T175, h175, X175, e175, W175, V175, st175⟩ := stCV X173 hx hZ e173 V173' (j := (1 : Int32)) (i := 1) (by decide) rfl (Nat.le_of_ble_eq_true rfl) (g := (mkF m 396 #[.val (.ref b), .val (.int n)] [(.int (cs.getD 1 0)), (.int (1 : Int32)), (.ref b170), (.ref b170), (.ref b169), (.ref b169)])) rfl rfl (hb hby d1_396)
                      rw [nar_cid (x := cs.getD 1 0) (own_rg hr hcs (by decide))] at V175
                      have V175' : Arv Z h175 b170 k170 .char (9 : Int32) [(.int (cs.getD 0 0)), (.int (cs.getD 1 0)), (.int (0 : Int32)), (.int (0 : Int32)), (.int (0 : Int32)), (.int (0 : Int32)), (.int (0 : Int32)), (.int (0 : Int32)), (.int (0 : Int32))] (.int (0 : Int32)) := V175
                      have N175 := Fr.snoc X175 N173 (Nat.le_trans Z0 (Nat.le_trans E169.1 (Nat.le_of_eq g170.symm)))
                      refine Go.st (T' := T175) (g' := (mkF m 397 #[.val (.ref b), .val (.int n)] [(.ref b170), (.ref b169), (.ref b169)])) (fun _ zk => st175 _ zk) ?_
                      refine Go.st (T' := T175) (g' := (mkF m 398 #[.val (.ref b), .val (.int n)] [(.ref b170), (.ref b170), (.ref b169), (.ref b169)])) (fun _ zk => XS.dup X175.here hx rfl (hb hby d1_397) rfl rfl zk) ?_
                      refine Go.st (T' := T175) (g' := (mkF m 399 #[.val (.ref b), .val (.int n)] [(.int (2 : Int32)), (.ref b170), (.ref b170), (.ref b169), (.ref b169)])) (fun _ zk => XS.iconst X175.here hx rfl (hb hby d1_398) zk) ?_
                      refine Go.st (T' := T175) (g' := (mkF m 400 #[.val (.ref b), .val (.int n)] [(.ref b), (.int (2 : Int32)), (.ref b170), (.ref b170), (.ref b169), (.ref b169)])) (fun _ zk => XS.aloadN X175.here hx rfl (hb hby d1_399) rfl rfl zk) ?_
                      refine Go.st (T' := T175) (g' := (mkF m 401 #[.val (.ref b), .val (.int n)] [(.int (2 : Int32)), (.ref b), (.int (2 : Int32)), (.ref b170), (.ref b170), (.ref b169), (.ref b169)])) (fun _ zk => XS.iconst X175.here hx rfl (hb hby d1_400) zk) ?_
                      have f176 := (f174.other W175 (ne_lt VC.lt E169.1 (Nat.le_of_eq g170.symm)))
                      refine Go.st (T' := T175) (g' := (mkF m 402 #[.val (.ref b), .val (.int n)] [(.int (cs.getD 2 0)), (.int (2 : Int32)), (.ref b170), (.ref b170), (.ref b169), (.ref b169)])) (fun _ zk => ldCV X175 hx hZ e175 f176 (j := (2 : Int32)) ⟨by decide, by decide⟩ (v := (.int (cs.getD 2 0))) (own_getD cs 2) (g := (mkF m 401 #[.val (.ref b), .val (.int n)] [(.int (2 : Int32)), (.ref b), (.int (2 : Int32)), (.ref b170), (.ref b170), (.ref b169), (.ref b169)])) rfl (rest := [(.int (2 : Int32)), (.ref b170), (.ref b170), (.ref b169), (.ref b169)]) rfl (hb hby d1_401) zk) ?_
                      obtain ⟨T177, h177, X177, e177, W177, V177, st177⟩ := stCV X175 hx hZ e175 V175' (j := (2 : Int32)) (i := 2) (by decide) rfl (Nat.le_of_ble_eq_true rfl) (g := (mkF m 402 #[.val (.ref b), .val (.int n)] [(.int (cs.getD 2 0)), (.int (2 : Int32)), (.ref b170), (.ref b170), (.ref b169), (.ref b169)])) rfl rfl (hb hby d1_402)
                      rw [nar_cid (x := cs.getD 2 0) (own_rg hr hcs (by decide))] at V177
                      have V177' : Arv Z h177 b170 k170 .char (9 : Int32) [(.int (cs.getD 0 0)), (.int (cs.getD 1 0)), (.int (cs.getD 2 0)), (.int (0 : Int32)), (.int (0 : Int32)), (.int (0 : Int32)), (.int (0 : Int32)), (.int (0 : Int32)), (.int (0 : Int32))] (.int (0 : Int32)) := V177
                      have N177 := Fr.snoc X177 N175 (Nat.le_trans Z0 (Nat.le_trans E169.1 (Nat.le_of_eq g170.symm)))
                      refine Go.st (T' := T177) (g' := (mkF m 403 #[.val (.ref b), .val (.int n)] [(.ref b170), (.ref b169), (.ref b169)])) (fun _ zk => st177 _ zk) ?_
                      refine Go.st (T' := T177) (g' := (mkF m 404 #[.val (.ref b), .val (.int n)] [(.ref b170), (.ref b170), (.ref b169), (.ref b169)])) (fun _ zk => XS.dup X177.here hx rfl (hb hby d1_403) rfl rfl zk) ?_
                      refine Go.st (T' := T177) (g' := (mkF m 405 #[.val (.ref b), .val (.int n)] [(.int (3 : Int32)), (.ref b170), (.ref b170), (.ref b169), (.ref b169)])) (fun _ zk => XS.iconst X177.here hx rfl (hb hby d1_404) zk) ?_
                      refine Go.st (T' := T177) (g' := (mkF m 406 #[.val (.ref b), .val (.int n)] [(.ref b), (.int (3 : Int32)), (.ref b170), (.ref b170), (.ref b169), (.ref b169)])) (fun _ zk => XS.aloadN X177.here hx rfl (hb hby d1_405) rfl rfl zk) ?_
                      refine Go.st (T' := T177) (g' := (mkF m 407 #[.val (.ref b), .val (.int n)] [(.int (3 : Int32)), (.ref b), (.int (3 : Int32)), (.ref b170), (.ref b170), (.ref b169), (.ref b169)])) (fun _ zk => XS.iconst X177.here hx rfl (hb hby d1_406) zk) ?_
                      have f178 := (f176.other W177 (ne_lt VC.lt E169.1 (Nat.le_of_eq g170.symm)))
                      refine Go.st (T' := T177) (g' := (mkF m 408 #[.val (.ref b), .val (.int n)] [(.int (cs.getD 3 0)), (.int (3 : Int32)), (.ref b170), (.ref b170), (.ref b169), (.ref b169)])) (fun _ zk => ldCV X177 hx hZ e177 f178 (j := (3 : Int32)) ⟨by decide, by decide⟩ (v := (.int (cs.getD 3 0))) (own_getD cs 3) (g := (mkF m 407 #[.val (.ref b), .val (.int n)] [(.int (3 : Int32)), (.ref b), (.int (3 : Int32)), (.ref b170), (.ref b170), (.ref b169), (.ref b169)])) rfl (rest := [(.int (3 : Int32)), (.ref b170), (.ref b170), (.ref b169), (.ref b169)]) rfl (hb hby d1_407) zk) ?_
                      obtain ⟨T179, h179, X179, e179, W179, V179, st179⟩ := stCV X177 hx hZ e177 V177' (j := (3 : Int32)) (i := 3) (by decide) rfl (Nat.le_of_ble_eq_true rfl) (g := (mkF m 408 #[.val (.ref b), .val (.int n)] [(.int (cs.getD 3 0)), (.int (3 : Int32)), (.ref b170), (.ref b170), (.ref b169), (.ref b169)])) rfl rfl (hb hby d1_408)
                      rw [nar_cid (x := cs.getD 3 0) (own_rg hr hcs (by decide))] at V179
                      have V179' : Arv Z h179 b170 k170 .char (9 : Int32) [(.int (cs.getD 0 0)), (.int (cs.getD 1 0)), (.int (cs.getD 2 0)), (.int (cs.getD 3 0)), (.int (0 : Int32)), (.int (0 : Int32)), (.int (0 : Int32)), (.int (0 : Int32)), (.int (0 : Int32))] (.int (0 : Int32)) := V179
                      have N179 := Fr.snoc X179 N177 (Nat.le_trans Z0 (Nat.le_trans E169.1 (Nat.le_of_eq g170.symm)))
                      refine Go.st (T' := T179) (g' := (mkF m 409 #[.val (.ref b), .val (.int n)] [(.ref b170), (.ref b169), (.ref b169)])) (fun _ zk => st179 _ zk) ?_
                      refine Go.st (T' := T179) (g' := (mkF m 410 #[.val (.ref b), .val (.int n)] [(.ref b170), (.ref b170), (.ref b169), (.ref b169)])) (fun _ zk => XS.dup X179.here hx rfl (hb hby d1_409) rfl rfl zk) ?_
                      refine Go.st (T' := T179) (g' := (mkF m 411 #[.val (.ref b), .val (.int n)] [(.int (4 : Int32)), (.ref b170), (.ref b170), (.ref b169), (.ref b169)])) (fun _ zk => XS.iconst X179.here hx rfl (hb hby d1_410) zk) ?_
                      refine Go.st (T' := T179) (g' := (mkF m 412 #[.val (.ref b), .val (.int n)] [(.ref b), (.int (4 : Int32)), (.ref b170), (.ref b170), (.ref b169), (.ref b169)])) (fun _ zk => XS.aloadN X179.here hx rfl (hb hby d1_411) rfl rfl zk) ?_
                      refine Go.st (T' := T179) (g' := (mkF m 413 #[.val (.ref b), .val (.int n)] [(.int (4 : Int32)), (.ref b), (.int (4 : Int32)), (.ref b170), (.ref b170), (.ref b169), (.ref b169)])) (fun _ zk => XS.iconst X179.here hx rfl (hb hby d1_412) zk) ?_
                      have f180 := (f178.other W179 (ne_lt VC.lt E169.1 (Nat.le_of_eq g170.symm)))
                      refine Go.st (T' := T179) (g' := (mkF m 414 #[.val (.ref b), .val (.int n)] [(.int (cs.getD 4 0)), (.int (4 : Int32)), (.ref b170), (.ref b170), (.ref b169), (.ref b169)])) (fun _ zk => ldCV X179 hx hZ e179 f180 (j := (4 : Int32)) ⟨by decide, by decide⟩ (v := (.int (cs.getD 4 0))) (own_getD cs 4) (g := (mkF m 413 #[.val (.ref b), .val (.int n)] [(.int (4 : Int32)), (.ref b), (.int (4 : Int32)), (.ref b170), (.ref b170), (.ref b169), (.ref b169)])) rfl (rest := [(.int (4 : Int32)), (.ref b170), (.ref b170), (.ref b169), (.ref b169)]) rfl (hb hby d1_413) zk) ?_
                      obtain ⟨T181, h181, X181, e181, W181, V181, st181⟩ := stCV X179 hx hZ e179 V179' (j := (4 : Int32)) (i := 4) (by decide) rfl (Nat.le_of_ble_eq_true rfl) (g := (mkF m 414 #[.val (.ref b), .val (.int n)] [(.int (cs.getD 4 0)), (.int (4 : Int32)), (.ref b170), (.ref b170), (.ref b169), (.ref b169)])) rfl rfl (hb hby d1_414)
                      rw [nar_cid (x := cs.getD 4 0) (own_rg hr hcs (by decide))] at V181
                      have V181' : Arv Z h181 b170 k170 .char (9 : Int32) [(.int (cs.getD 0 0)), (.int (cs.getD 1 0)), (.int (cs.getD 2 0)), (.int (cs.getD 3 0)), (.int (cs.getD 4 0)), (.int (0 : Int32)), (.int (0 : Int32)), (.int (0 : Int32)), (.int (0 : Int32))] (.int (0 : Int32)) := V181
                      have N181 := Fr.snoc X181 N179 (Nat.le_trans Z0 (Nat.le_trans E169.1 (Nat.le_of_eq g170.symm)))
                      refine Go.st (T' := T181) (g' := (mkF m 415 #[.val (.ref b), .val (.int n)] [(.ref b170), (.ref b169), (.ref b169)])) (fun _ zk => st181 _ zk) ?_
                      refine Go.st (T' := T181) (g' := (mkF m 416 #[.val (.ref b), .val (.int n)] [(.ref b170), (.ref b170), (.ref b169), (.ref b169)])) (fun _ zk => XS.dup X181.here hx rfl (hb hby d1_415) rfl rfl zk) ?_
                      refine Go.st (T' := T181) (g' := (mkF m 417 #[.val (.ref b), .val (.int n)] [(.int (5 : Int32)), (.ref b170), (.ref b170), (.ref b169), (.ref b169)])) (fun _ zk => XS.iconst X181.here hx rfl (hb hby d1_416) zk) ?_
                      refine Go.st (T' := T181) (g' := (mkF m 418 #[.val (.ref b), .val (.int n)] [(.ref b), (.int (5 : Int32)), (.ref b170), (.ref b170), (.ref b169), (.ref b169)])) (fun _ zk => XS.aloadN X181.here hx rfl (hb hby d1_417) rfl rfl zk) ?_
                      refine Go.st (T' := T181) (g' := (mkF m 419 #[.val (.ref b), .val (.int n)] [(.int (5 : Int32)), (.ref b), (.int (5 : Int32)), (.ref b170), (.ref b170), (.ref b169), (.ref b169)])) (fun _ zk => XS.iconst X181.here hx rfl (hb hby d1_418) zk) ?_
                      have f182 := (f180.other W181 (ne_lt VC.lt E169.1 (Nat.le_of_eq g170.symm)))
                      refine Go.st (T' := T181) (g' := (mkF m 420 #[.val (.ref b), .val (.int n)] [(.int (cs.getD 5 0)), (.int (5 : Int32)), (.ref b170), (.ref b170), (.ref b169), (.ref b169)])) (fun _ zk => ldCV X181 hx hZ e181 f182 (j := (5 : Int32)) ⟨by decide, by decide⟩ (v := (.int (cs.getD 5 0))) (own_getD cs 5) (g := (mkF m 419 #[.val (.ref b), .val (.int n)] [(.int (5 : Int32)), (.ref b), (.int (5 : Int32)), (.ref b170), (.ref b170), (.ref b169), (.ref b169)])) rfl (rest := [(.int (5 : Int32)), (.ref b170), (.ref b170), (.ref b169), (.ref b169)]) rfl (hb hby d1_419) zk) ?_
                      obtain ⟨T183, h183, X183, e183, W183, V183, st183⟩ := stCV X181 hx hZ e181 V181' (j := (5 : Int32)) (i := 5) (by decide) rfl (Nat.le_of_ble_eq_true rfl) (g := (mkF m 420 #[.val (.ref b), .val (.int n)] [(.int (cs.getD 5 0)), (.int (5 : Int32)), (.ref b170), (.ref b170), (.ref b169), (.ref b169)])) rfl rfl (hb hby d1_420)
                      rw [nar_cid (x := cs.getD 5 0) (own_rg hr hcs (by decide))] at V183
                      have V183' : Arv Z h183 b170 k170 .char (9 : Int32) [(.int (cs.getD 0 0)), (.int (cs.getD 1 0)), (.int (cs.getD 2 0)), (.int (cs.getD 3 0)), (.int (cs.getD 4 0)), (.int (cs.getD 5 0)), (.int (0 : Int32)), (.int (0 : Int32)), (.int (0 : Int32))] (.int (0 : Int32)) := V183
                      have N183 := Fr.snoc X183 N181 (Nat.le_trans Z0 (Nat.le_trans E169.1 (Nat.le_of_eq g170.symm)))
                      refine Go.st (T' := T183) (g' := (mkF m 421 #[.val (.ref b), .val (.int n)] [(.ref b170), (.ref b169), (.ref b169)])) (fun _ zk => st183 _ zk) ?_
                      refine Go.st (T' := T183) (g' := (mkF m 422 #[.val (.ref b), .val (.int n)] [(.ref b170), (.ref b170), (.ref b169), (.ref b169)])) (fun _ zk => XS.dup X183.here hx rfl (hb hby d1_421) rfl rfl zk) ?_
                      refine Go.st (T' := T183) (g' := (mkF m 424 #[.val (.ref b), .val (.int n)] [(.int (6 : Int32)), (.ref b170), (.ref b170), (.ref b169), (.ref b169)])) (fun _ zk => XS.bipush X183.here hx rfl (hb hby d1_422) zk) ?_
                      refine Go.st (T' := T183) (g' := (mkF m 425 #[.val (.ref b), .val (.int n)] [(.ref b), (.int (6 : Int32)), (.ref b170), (.ref b170), (.ref b169), (.ref b169)])) (fun _ zk => XS.aloadN X183.here hx rfl (hb hby d1_424) rfl rfl zk) ?_
                      refine Go.st (T' := T183) (g' := (mkF m 427 #[.val (.ref b), .val (.int n)] [(.int (6 : Int32)), (.ref b), (.int (6 : Int32)), (.ref b170), (.ref b170), (.ref b169), (.ref b169)])) (fun _ zk => XS.bipush X183.here hx rfl (hb hby d1_425) zk) ?_
                      have f184 := (f182.other W183 (ne_lt VC.lt E169.1 (Nat.le_of_eq g170.symm)))
                      refine Go.st (T' := T183) (g' := (mkF m 428 #[.val (.ref b), .val (.int n)] [(.int (cs.getD 6 0)), (.int (6 : Int32)), (.ref b170), (.ref b170), (.ref b169), (.ref b169)])) (fun _ zk => ldCV X183 hx hZ e183 f184 (j := (6 : Int32)) ⟨by decide, by decide⟩ (v := (.int (cs.getD 6 0))) (own_getD cs 6) (g := (mkF m 427 #[.val (.ref b), .val (.int n)] [(.int (6 : Int32)), (.ref b), (.int (6 : Int32)), (.ref b170), (.ref b170), (.ref b169), (.ref b169)])) rfl (rest := [(.int (6 : Int32)), (.ref b170), (.ref b170), (.ref b169), (.ref b169)]) rfl (hb hby d1_427) zk) ?_
                      obtain ⟨T185, h185, X185, e185, W185, V185, st185⟩ := stCV X183 hx hZ e183 V183' (j := (6 : Int32)) (i := 6) (by decide) rfl (Nat.le_of_ble_eq_true rfl) (g := (mkF m 428 #[.val (.ref b), .val (.int n)] [(.int (cs.getD 6 0)), (.int (6 : Int32)), (.ref b170), (.ref b170), (.ref b169), (.ref b169)])) rfl rfl (hb hby d1_428)
                      rw [nar_cid (x := cs.getD 6 0) (own_rg hr hcs (by decide))] at V185
                      have V185' : Arv Z h185 b170 k170 .char (9 : Int32) [(.int (cs.getD 0 0)), (.int (cs.getD 1 0)), (.int (cs.getD 2 0)), (.int (cs.getD 3 0)), (.int (cs.getD 4 0)), (.int (cs.getD 5 0)), (.int (cs.getD 6 0)), (.int (0 : Int32)), (.int (0 : Int32))] (.int (0 : Int32)) := V185
                      have N185 := Fr.snoc X185 N183 (Nat.le_trans Z0 (Nat.le_trans E169.1 (Nat.le_of_eq g170.symm)))
                      refine Go.st (T' := T185) (g' := (mkF m 429 #[.val (.ref b), .val (.int n)] [(.ref b170), (.ref b169), (.ref b169)])) (fun _ zk => st185 _ zk) ?_
                      refine Go.st (T' := T185) (g' := (mkF m 430 #[.val (.ref b), .val (.int n)] [(.ref b170), (.ref b170), (.ref b169), (.ref b169)])) (fun _ zk => XS.dup X185.here hx rfl (hb hby d1_429) rfl rfl zk) ?_
                      refine Go.st (T' := T185) (g' := (mkF m 432 #[.val (.ref b), .val (.int n)] [(.int (7 : Int32)), (.ref b170), (.ref b170), (.ref b169), (.ref b169)])) (fun _ zk => XS.bipush X185.here hx rfl (hb hby d1_430) zk) ?_
                      refine Go.st (T' := T185) (g' := (mkF m 433 #[.val (.ref b), .val (.int n)] [(.ref b), (.int (7 : Int32)), (.ref b170), (.ref b170), (.ref b169), (.ref b169)])) (fun _ zk => XS.aloadN X185.here hx rfl (hb hby d1_432) rfl rfl zk) ?_
                      refine Go.st (T' := T185) (g' := (mkF m 435 #[.val (.ref b), .val (.int n)] [(.int (7 : Int32)), (.ref b), (.int (7 : Int32)), (.ref b170), (.ref b170), (.ref b169), (.ref b169)])) (fun _ zk => XS.bipush X185.here hx rfl (hb hby d1_433) zk) ?_
                      have f186 := (f184.other W185 (ne_lt VC.lt E169.1 (Nat.le_of_eq g170.symm)))
                      refine Go.st (T' := T185) (g' := (mkF m 436 #[.val (.ref b), .val (.int n)] [(.int (cs.getD 7 0)), (.int (7 : Int32)), (.ref b170), (.ref b170), (.ref b169), (.ref b169)])) (fun _ zk => ldCV X185 hx hZ e185 f186 (j := (7 : Int32)) ⟨by decide, by decide⟩ (v := (.int (cs.getD 7 0))) (own_getD cs 7) (g := (mkF m 435 #[.val (.ref b), .val (.int n)] [(.int (7 : Int32)), (.ref b), (.int (7 : Int32)), (.ref b170), (.ref b170), (.ref b169), (.ref b169)])) rfl (rest := [(.int (7 : Int32)), (.ref b170), (.ref b170), (.ref b169), (.ref b169)]) rfl (hb hby d1_435) zk) ?_
                      obtain ⟨T187, h187, X187, e187, W187, V187, st187⟩ := stCV X185 hx hZ e185 V185' (j := (7 : Int32)) (i := 7) (by decide) rfl (Nat.le_of_ble_eq_true rfl) (g := (mkF m 436 #[.val (.ref b), .val (.int n)] [(.int (cs.getD 7 0)), (.int (7 : Int32)), (.ref b170), (.ref b170), (.ref b169), (.ref b169)])) rfl rfl (hb hby d1_436)
                      rw [nar_cid (x := cs.getD 7 0) (own_rg hr hcs (by decide))] at V187
                      have V187' : Arv Z h187 b170 k170 .char (9 : Int32) [(.int (cs.getD 0 0)), (.int (cs.getD 1 0)), (.int (cs.getD 2 0)), (.int (cs.getD 3 0)), (.int (cs.getD 4 0)), (.int (cs.getD 5 0)), (.int (cs.getD 6 0)), (.int (cs.getD 7 0)), (.int (0 : Int32))] (.int (0 : Int32)) := V187
                      have N187 := Fr.snoc X187 N185 (Nat.le_trans Z0 (Nat.le_trans E169.1 (Nat.le_of_eq g170.symm)))
                      refine Go.st (T' := T187) (g' := (mkF m 437 #[.val (.ref b), .val (.int n)] [(.ref b170), (.ref b169), (.ref b169)])) (fun _ zk => st187 _ zk) ?_
                      refine Go.st (T' := T187) (g' := (mkF m 438 #[.val (.ref b), .val (.int n)] [(.ref b170), (.ref b170), (.ref b169), (.ref b169)])) (fun _ zk => XS.dup X187.here hx rfl (hb hby d1_437) rfl rfl zk) ?_
                      refine Go.st (T' := T187) (g' := (mkF m 440 #[.val (.ref b), .val (.int n)] [(.int (8 : Int32)), (.ref b170), (.ref b170), (.ref b169), (.ref b169)])) (fun _ zk => XS.bipush X187.here hx rfl (hb hby d1_438) zk) ?_
                      refine Go.st (T' := T187) (g' := (mkF m 441 #[.val (.ref b), .val (.int n)] [(.ref b), (.int (8 : Int32)), (.ref b170), (.ref b170), (.ref b169), (.ref b169)])) (fun _ zk => XS.aloadN X187.here hx rfl (hb hby d1_440) rfl rfl zk) ?_
                      refine Go.st (T' := T187) (g' := (mkF m 443 #[.val (.ref b), .val (.int n)] [(.int (8 : Int32)), (.ref b), (.int (8 : Int32)), (.ref b170), (.ref b170), (.ref b169), (.ref b169)])) (fun _ zk => XS.bipush X187.here hx rfl (hb hby d1_441) zk) ?_
                      have f188 := (f186.other W187 (ne_lt VC.lt E169.1 (Nat.le_of_eq g170.symm)))
                      refine Go.st (T' := T187) (g' := (mkF m 444 #[.val (.ref b), .val (.int n)] [(.int (cs.getD 8 0)), (.int (8 : Int32)), (.ref b170), (.ref b170), (.ref b169), (.ref b169)])) (fun _ zk => ldCV X187 hx hZ e187 f188 (j := (8 : Int32)) ⟨by decide, by decide⟩ (v := (.int (cs.getD 8 0))) (own_getD cs 8) (g := (mkF m 443 #[.val (.ref b), .val (.int n)] [(.int (8 : Int32)), (.ref b), (.int (8 : Int32)), (.ref b170), (.ref b170), (.ref b169), (.ref b169)])) rfl (rest := [(.int (8 : Int32)), (.ref b170), (.ref b170), (.ref b169), (.ref b169)]) rfl (hb hby d1_443) zk) ?_
                      obtain ⟨T189, h189, X189, e189, W189, V189, st189⟩ := stCV X187 hx hZ e187 V187' (j := (8 : Int32)) (i := 8) (by decide) rfl (Nat.le_of_ble_eq_true rfl) (g := (mkF m 444 #[.val (.ref b), .val (.int n)] [(.int (cs.getD 8 0)), (.int (8 : Int32)), (.ref b170), (.ref b170), (.ref b169), (.ref b169)])) rfl rfl (hb hby d1_444)
                      rw [nar_cid (x := cs.getD 8 0) (own_rg hr hcs (by decide))] at V189
                      have V189' : Arv Z h189 b170 k170 .char (9 : Int32) [(.int (cs.getD 0 0)), (.int (cs.getD 1 0)), (.int (cs.getD 2 0)), (.int (cs.getD 3 0)), (.int (cs.getD 4 0)), (.int (cs.getD 5 0)), (.int (cs.getD 6 0)), (.int (cs.getD 7 0)), (.int (cs.getD 8 0))] (.int (0 : Int32)) := V189
                      have N189 := Fr.snoc X189 N187 (Nat.le_trans Z0 (Nat.le_trans E169.1 (Nat.le_of_eq g170.symm)))
                      refine Go.st (T' := T189) (g' := (mkF m 445 #[.val (.ref b), .val (.int n)] [(.ref b170), (.ref b169), (.ref b169)])) (fun _ zk => st189 _ zk) ?_
                      have hrg : ∀ x ∈ [(cs.getD 0 0), (cs.getD 1 0), (cs.getD 2 0), (cs.getD 3 0), (cs.getD 4 0), (cs.getD 5 0), (cs.getD 6 0), (cs.getD 7 0), (cs.getD 8 0)], 0 ≤ x.toInt ∧ x.toInt < 65536 := by
                        simp only [List.forall_mem_cons]
                        exact ⟨own_rg hr hcs (by decide), own_rg hr hcs (by decide), own_rg hr hcs (by decide), own_rg hr hcs (by decide), own_rg hr hcs (by decide), own_rg hr hcs (by decide), own_rg hr hcs (by decide), own_rg hr hcs (by decide), own_rg hr hcs (by decide), fun _ q => nomatch q⟩
                      have xt190 : Ext h169 h189 := (((((((((E170.thenW W173 (Nat.le_of_eq g170.symm)).thenW W175 (Nat.le_of_eq g170.symm)).thenW W177 (Nat.le_of_eq g170.symm)).thenW W179 (Nat.le_of_eq g170.symm)).thenW W181 (Nat.le_of_eq g170.symm)).thenW W183 (Nat.le_of_eq g170.symm)).thenW W185 (Nat.le_of_eq g170.symm)).thenW W187 (Nat.le_of_eq g170.symm)).thenW W189 (Nat.le_of_eq g170.symm))
                      have f191 := A169.ext xt190
                      have f192 := F169_coder.ext xt190
                      have f193 := F169_value.ext xt190
                      have xt195 : Ext h0 h189 := (((((((((xt171.thenW W173 (Nat.le_trans E169.1 (Nat.le_of_eq g170.symm))).thenW W175 (Nat.le_trans E169.1 (Nat.le_of_eq g170.symm))).thenW W177 (Nat.le_trans E169.1 (Nat.le_of_eq g170.symm))).thenW W179 (Nat.le_trans E169.1 (Nat.le_of_eq g170.symm))).thenW W181 (Nat.le_trans E169.1 (Nat.le_of_eq g170.symm))).thenW W183 (Nat.le_trans E169.1 (Nat.le_of_eq g170.symm))).thenW W185 (Nat.le_trans E169.1 (Nat.le_of_eq g170.symm))).thenW W187 (Nat.le_trans E169.1 (Nat.le_of_eq g170.symm))).thenW W189 (Nat.le_trans E169.1 (Nat.le_of_eq g170.symm)))
                      have f196 := O0.ext xt195
                      refine Go.callSp (y := (⟨"java/lang/String", "<init>", "([C)V"⟩ : MethodName)) (a := b169) X189 hx hZ hown e189 rfl (w10 hw) (w11 hw) (w9 hw) (w12 hw) (by decide) (argsL := [(.ref b170)]) (rest := [(.ref b169)]) (W := 1) (rm_init1W l Z a0 hw [] b169 b170 k170 [(cs.getD 0 0), (cs.getD 1 0), (cs.getD 2 0), (cs.getD 3 0), (cs.getD 4 0), (cs.getD 5 0), (cs.getD 6 0), (cs.getD 7 0), (cs.getD 8 0)] 9 zc h189 n0 (Nat.le_trans Z0 (Nat.le_trans (Nat.le_trans (Nat.le_trans (Nat.le_trans (Nat.le_trans (Nat.le_trans (Nat.le_trans (Nat.le_trans (Nat.le_trans (Nat.le_trans E169.1 E170.1) (Keep.of_wr W173).1) (Keep.of_wr W175).1) (Keep.of_wr W177).1) (Keep.of_wr W179).1) (Keep.of_wr W181).1) (Keep.of_wr W183).1) (Keep.of_wr W185).1) (Keep.of_wr W187).1) (Keep.of_wr W189).1)) f196 f191 (Nat.le_trans Z0 (Nat.le_trans (Nat.le_refl _) (Nat.le_of_eq g169.symm))) f192 f193 V189' (by decide) rfl (by decide) (by decide) hrg CS hz UA UH UL) rfl (lenOf pd25 rfl) rfl (by rw [hml]; rfl) rfl (by show 2 * 0 + _ ≤ _; exact Nat.le_of_eq rfl) (by decide) (by decide) (by decide) (by decide) (hb hby d1_445) ?_
                      intro v194 T194 h194 L194 X194 e194 q194
                      obtain ⟨hv194, Nf194, K194, SC⟩ := q194
                      subst hv194
                      have N194 := Fr.app N189 Nf194
                      show Go p.tables e below _ T194 (mkF m 448 #[.val (.ref b), .val (.int n)] [(.ref b169)])
                      have xt197 : Ext h0 h194 := (xt195.thenK K194 (allS (P := fun x => h0.size ≤ x) (Nat.le_of_eq g169.symm) all0))
                      have cr198 := chrE hA xt197
                      refine Go.retAS X194 hx hlk hS (Nat.le_trans (Nat.zero_le _) (Nat.le_trans (Nat.le_trans (Nat.le_trans (Nat.le_trans (Nat.le_trans (Nat.le_trans (Nat.le_trans (Nat.le_trans (Nat.le_trans (Nat.le_trans (Nat.le_trans E169.1 E170.1) (Keep.of_wr W173).1) (Keep.of_wr W175).1) (Keep.of_wr W177).1) (Keep.of_wr W179).1) (Keep.of_wr W181).1) (Keep.of_wr W183).1) (Keep.of_wr W185).1) (Keep.of_wr W187).1) (Keep.of_wr W189).1) K194.1)) cr198 hZ hEL hret rfl rfl (hb hby d1_448) (by decide) (by decide) e194 ?_
                      exact ⟨_, [(cs.getD 0 0), (cs.getD 1 0), (cs.getD 2 0), (cs.getD 3 0), (cs.getD 4 0), (cs.getD 5 0), (cs.getD 6 0), (cs.getD 7 0), (cs.getD 8 0)], rfl, N194, xt197, (Nat.le_trans (Nat.le_refl _) (Nat.le_of_eq g169.symm)), Nat.le_of_ble_eq_true rfl, hrg, SC⟩
                    · refine Go.st (T' := s₁) (g' := (mkF m 449 #[.val (.ref b), .val (.int n)] [])) (fun _ zk => XS.icmpYes X0.here hx rfl (pc0 := 374) (pc' := 449) rfl (hb hby d1_374) rfl (feq hc374).2 (by decide) (by decide) zk) ?_
                      obtain ⟨T199, h199, X199, e199, E199, A199, D199, -, st199⟩ := newO X0 hx hZ hown (w7 hw) (w8 hw) (w9 hw) e0 (g := (mkF m 449 #[.val (.ref b), .val (.int n)] [])) rfl (hb hby d1_449) (by decide) (by decide)
                      obtain ⟨b199, g199⟩ : ∃ z, z = h0.size := ⟨_, rfl⟩
                      rw [← g199] at A199 D199 st199
                      have F199_value : Fld Z h199 b199 "java/lang/String" "value" "[B" .null := D199 (Or.inr (w22 hw)) (ty := (.array .byte)) (by decide)
                      have F199_coder : Fld Z h199 b199 "java/lang/String" "coder" "B" (.int (0 : Int32)) := D199 (Or.inr (w23 hw)) (ty := .byte) (by decide)
                      refine Go.st (T' := T199) (g' := (mkF m 452 #[.val (.ref b), .val (.int n)] [(.ref b199)])) (fun _ zk => st199 _ zk) ?_
                      refine Go.st (T' := T199) (g' := (mkF m 453 #[.val (.ref b), .val (.int n)] [(.ref b199), (.ref b199)])) (fun _ zk => XS.dup X199.here hx rfl (hb hby d1_452) rfl rfl zk) ?_
                      refine Go.st (T' := T199) (g' := (mkF m 455 #[.val (.ref b), .val (.int n)] [(.int (10 : Int32)), (.ref b199), (.ref b199)])) (fun _ zk => XS.bipush X199.here hx rfl (hb hby d1_453) zk) ?_
                      obtain ⟨T200, h200, k200, X200, e200, E200, A200, st200⟩ := newP (aty := .char) X199 hx hZ (w2 hw) e199 (g := (mkF m 455 #[.val (.ref b), .val (.int n)] [(.int (10 : Int32)), (.ref b199), (.ref b199)])) rfl (hb hby d1_455) rfl (by decide) (cap := 10) (by decide) (by decide) (by decide) (by decide)
                      obtain ⟨b200, g200⟩ : ∃ z, z = h199.size := ⟨_, rfl⟩
                      rw [← g200] at A200 st200
                      have V200 : Arv Z h200 b200 k200 .char (10 : Int32) [(.int (0 : Int32)), (.int (0 : Int32)), (.int (0 : Int32)), (.int (0 : Int32)), (.int (0 : Int32)), (.int (0 : Int32)), (.int (0 : Int32)), (.int (0 : Int32)), (.int (0 : Int32)), (.int (0 : Int32))] (.int (0 : Int32)) := (Arv.new A200 (by decide)).pad (pad_rep [] (.int (0 : Int32)) 10)
                      refine Go.st (T' := T200) (g' := (mkF m 457 #[.val (.ref b), .val (.int n)] [(.ref b200), (.ref b199), (.ref b199)])) (fun _ zk => st200 _ zk) ?_
                      refine Go.st (T' := T200) (g' := (mkF m 458 #[.val (.ref b), .val (.int n)] [(.ref b200), (.ref b200), (.ref b199), (.ref b199)])) (fun _ zk => XS.dup X200.here hx rfl (hb hby d1_457) rfl rfl zk) ?_
                      refine Go.st (T' := T200) (g' := (mkF m 459 #[.val (.ref b), .val (.int n)] [(.int (0 : Int32)), (.ref b200), (.ref b200), (.ref b199), (.ref b199)])) (fun _ zk => XS.iconst X200.here hx rfl (hb hby d1_458) zk) ?_
                      refine Go.st (T' := T200) (g' := (mkF m 460 #[.val (.ref b), .val (.int n)] [(.ref b), (.int (0 : Int32)), (.ref b200), (.ref b200), (.ref b199), (.ref b199)])) (fun _ zk => XS.aloadN X200.here hx rfl (hb hby d1_459) rfl rfl zk) ?_
                      refine Go.st (T' := T200) (g' := (mkF m 461 #[.val (.ref b), .val (.int n)] [(.int (0 : Int32)), (.ref b), (.int (0 : Int32)), (.ref b200), (.ref b200), (.ref b199), (.ref b199)])) (fun _ zk => XS.iconst X200.here hx rfl (hb hby d1_460) zk) ?_
                      have xt201 : Ext h0 h200 := (E199.tr E200)
                      have f202 := VC.ext xt201
                      refine Go.st (T' := T200) (g' := (mkF m 462 #[.val (.ref b), .val (.int n)] [(.int (cs.getD 0 0)), (.int (0 : Int32)), (.ref b200), (.ref b200), (.ref b199), (.ref b199)])) (fun _ zk => ldCV X200 hx hZ e200 f202 (j := (0 : Int32)) ⟨by decide, by decide⟩ (v := (.int (cs.getD 0 0))) (own_getD cs 0) (g := (mkF m 461 #[.val (.ref b), .val (.int n)] [(.int (0 : Int32)), (.ref b), (.int (0 : Int32)), (.ref b200), (.ref b200), (.ref b199), (.ref b199)])) rfl (rest := [(.int (0 : Int32)), (.ref b200), (.ref b200), (.ref b199), (.ref b199)]) rfl (hb hby d1_461) zk) ?_
                      obtain ⟨T203, h203, X203, e203, W203, V203, st203⟩ := stCV X200 hx hZ e200 V200 (j := (0 : Int32)) (i := 0) (by decide) rfl (Nat.le_of_ble_eq_true rfl) (g := (mkF m 462 #[.val (.ref b), .val (.int n)] [(.int (cs.getD 0 0)), (.int (0 : Int32)), (.ref b200), (.ref b200), (.ref b199), (.ref b199)])) rfl rfl (hb hby d1_462)
                      rw [nar_cid (x := cs.getD 0 0) (own_rg hr hcs (by decide))] at V203
                      have V203' : Arv Z h203 b200 k200 .char (10 : Int32) [(.int (cs.getD 0 0)), (.int (0 : Int32)), (.int (0 : Int32)), (.int (0 : Int32)), (.int (0 : Int32)), (.int (0 : Int32)), (.int (0 : Int32)), (.int (0 : Int32)), (.int (0 : Int32)), (.int (0 : Int32))] (.int (0 : Int32)) := V203
                      have N203 := Fr.snoc X203 N0 (Nat.le_trans Z0 (Nat.le_trans E199.1 (Nat.le_of_eq g200.symm)))
                      refine Go.st (T' := T203) (g' := (mkF m 463 #[.val (.ref b), .val (.int n)] [(.ref b200), (.ref b199), (.ref b199)])) (fun _ zk => st203 _ zk) ?_
                      refine Go.st (T' := T203) (g' := (mkF m 464 #[.val (.ref b), .val (.int n)] [(.ref b200), (.ref b200), (.ref b199), (.ref b199)])) (fun _ zk => XS.dup X203.here hx rfl (hb hby d1_463) rfl rfl zk) ?_
                      refine Go.st (T' := T203) (g' := (mkF m 465 #[.val (.ref b), .val (.int n)] [(.int (1 : Int32)), (.ref b200), (.ref b200), (.ref b199), (.ref b199)])) (fun _ zk => XS.iconst X203.here hx rfl (hb hby d1_464) zk) ?_
                      refine Go.st (T' := T203) (g' := (mkF m 466 #[.val (.ref b), .val (.int n)] [(.ref b), (.int (1 : Int32)), (.ref b200), (.ref b200), (.ref b199), (.ref b199)])) (fun _ zk => XS.aloadN X203.here hx rfl (hb hby d1_465) rfl rfl zk) ?_
                      refine Go.st (T' := T203) (g' := (mkF m 467 #[.val (.ref b), .val (.int n)] [(.int (1 : Int32)), (.ref b), (.int (1 : Int32)), (.ref b200), (.ref b200), (.ref b199), (.ref b199)])) (fun _ zk => XS.iconst X203.here hx rfl (hb hby d1_466) zk) ?_
                      have f204 := (f202.other W203 (ne_lt VC.lt E199.1 (Nat.le_of_eq g200.symm)))
                      refine Go.st (T' := T203) (g' := (mkF m 468 #[.val (.ref b), .val (.int n)] [(.int (cs.getD 1 0)), (.int (1 : Int32)), (.ref b200), (.ref b200), (.ref b199), (.ref b199)])) (fun _ zk => ldCV X203 hx hZ e203 f204 (j := (1 : Int32)) ⟨by decide, by decide⟩ (v := (.int (cs.getD 1 0))) (own_getD cs 1) (g := (mkF m 467 #[.val (.ref b), .val (.int n)] [(.int (1 : Int32)), (.ref b), (.int (1 : Int32)), (.ref b200), (.ref b200), (.ref b199), (.ref b199)])) rfl (rest := [(.int (1 : Int32)), (.ref b200), (.ref b200), (.ref b199), (.ref b199)]) rfl (hb hby d1_467) zk) ?_
                      obtain ⟨T205, h205, X205, e205, W205, V205, st205⟩ := stCV X203 hx hZ e203 V203' (j := (1 : Int32)) (i := 1) (by decide) rfl (Nat.le_of_ble_eq_true rfl) (g := (mkF m 468 #[.val (.ref b), .val (.int n)] [(.int (cs.getD 1 0)), (.int (1 : Int32)), (.ref b200), (.ref b200), (.ref b199), (.ref b199)])) rfl rfl (hb hby d1_468)
                      rw [nar_cid (x := cs.getD 1 0) (own_rg hr hcs (by decide))] at V205
                      have V205' : Arv Z h205 b200 k200 .char (10 : Int32) [(.int (cs.getD 0 0)), (.int (cs.getD 1 0)), (.int (0 : Int32)), (.int (0 : Int32)), (.int (0 : Int32)), (.int (0 : Int32)), (.int (0 : Int32)), (.int (0 : Int32)), (.int (0 : Int32)), (.int (0 : Int32))] (.int (0 : Int32)) := V205
                      have N205 := Fr.snoc X205 N203 (Nat.le_trans Z0 (Nat.le_trans E199.1 (Nat.le_of_eq g200.symm)))
                      refine Go.st (T' := T205) (g' := (mkF m 469 #[.val (.ref b), .val (.int n)] [(.ref b200), (.ref b199), (.ref b199)])) (fun _ zk => st205 _ zk) ?_
                      refine Go.st (T' := T205) (g' := (mkF m 470 #[.val (.ref b), .val (.int n)] [(.ref b200), (.ref b200), (.ref b199), (.ref b199)])) (fun _ zk => XS.dup X205.here hx rfl (hb hby d1_469) rfl rfl zk) ?_
                      refine Go.st (T' := T205) (g' := (mkF m 471 #[.val (.ref b), .val (.int n)] [(.int (2 : Int32)), (.ref b200), (.ref b200), (.ref b199), (.ref b199)])) (fun _ zk => XS.iconst X205.here hx rfl (hb hby d1_470) zk) ?_
                      refine Go.st (T' := T205) (g' := (mkF m 472 #[.val (.ref b), .val (.int n)] [(.ref b), (.int (2 : Int32)), (.ref b200), (.ref b200), (.ref b199), (.ref b199)])) (fun _ zk => XS.aloadN X205.here hx rfl (hb hby d1_471) rfl rfl zk) ?_
                      refine Go.st (T' := T205) (g' := (mkF m 473 #[.val (.ref b), .val (.int n)] [(.int (2 : Int32)), (.ref b), (.int (2 : Int32)), (.ref b200), (.ref b200), (.ref b199), (.ref b199)])) (fun _ zk => XS.iconst X205.here hx rfl (hb hby d1_472) zk) ?_
                      have f206 := (f204.other W205 (ne_lt VC.lt E199.1 (Nat.le_of_eq g200.symm)))
                      refine Go.st (T' := T205) (g' := (mkF m 474 #[.val (.ref b), .val (.int n)] [(.int (cs.getD 2 0)), (.int (2 : Int32)), (.ref b200), (.ref b200), (.ref b199), (.ref b199)])) (fun _ zk => ldCV X205 hx hZ e205 f206 (j := (2 : Int32)) ⟨by decide, by decide⟩ (v := (.int (cs.getD 2 0))) (own_getD cs 2) (g := (mkF m 473 #[.val (.ref b), .val (.int n)] [(.int (2 : Int32)), (.ref b), (.int (2 : Int32)), (.ref b200), (.ref b200), (.ref b199), (.ref b199)])) rfl (rest := [(.int (2 : Int32)), (.ref b200), (.ref b200), (.ref b199), (.ref b199)]) rfl (hb hby d1_473) zk) ?_
                      obtain ⟨T207, h207, X207, e207, W207, V207, st207⟩ := stCV X205 hx hZ e205 V205' (j := (2 : Int32)) (i := 2) (by decide) rfl (Nat.le_of_ble_eq_true rfl) (g := (mkF m 474 #[.val (.ref b), .val (.int n)] [(.int (cs.getD 2 0)), (.int (2 : Int32)), (.ref b200), (.ref b200), (.ref b199), (.ref b199)])) rfl rfl (hb hby d1_474)
                      rw [nar_cid (x := cs.getD 2 0) (own_rg hr hcs (by decide))] at V207
                      have V207' : Arv Z h207 b200 k200 .char (10 : Int32) [(.int (cs.getD 0 0)), (.int (cs.getD 1 0)), (.int (cs.getD 2 0)), (.int (0 : Int32)), (.int (0 : Int32)), (.int (0 : Int32)), (.int (0 : Int32)), (.int (0 : Int32)), (.int (0 : Int32)), (.int (0 : Int32))] (.int (0 : Int32)) := V207
                      have N207 := Fr.snoc X207 N205 (Nat.le_trans Z0 (Nat.le_trans E199.1 (Nat.le_of_eq g200.symm)))
                      refine Go.st (T' := T207) (g' := (mkF m 475 #[.val (.ref b), .val (.int n)] [(.ref b200), (.ref b199), (.ref b199)])) (fun _ zk => st207 _ zk) ?_
                      refine Go.st (T' := T207) (g' := (mkF m 476 #[.val (.ref b), .val (.int n)] [(.ref b200), (.ref b200), (.ref b199), (.ref b199)])) (fun _ zk => XS.dup X207.here hx rfl (hb hby d1_475) rfl rfl zk) ?_
                      refine Go.st (T' := T207) (g' := (mkF m 477 #[.val (.ref b), .val (.int n)] [(.int (3 : Int32)), (.ref b200), (.ref b200), (.ref b199), (.ref b199)])) (fun _ zk => XS.iconst X207.here hx rfl (hb hby d1_476) zk) ?_
                      refine Go.st (T' := T207) (g' := (mkF m 478 #[.val (.ref b), .val (.int n)] [(.ref b), (.int (3 : Int32)), (.ref b200), (.ref b200), (.ref b199), (.ref b199)])) (fun _ zk => XS.aloadN X207.here hx rfl (hb hby d1_477) rfl rfl zk) ?_
                      refine Go.st (T' := T207) (g' := (mkF m 479 #[.val (.ref b), .val (.int n)] [(.int (3 : Int32)), (.ref b), (.int (3 : Int32)), (.ref b200), (.ref b200), (.ref b199), (.ref b199)])) (fun _ zk => XS.iconst X207.here hx rfl (hb hby d1_478) zk) ?_
                      have f208 := (f206.other W207 (ne_lt VC.lt E199.1 (Nat.le_of_eq g200.symm)))
                      refine Go.st (T' := T207) (g' := (mkF m 480 #[.val (.ref b), .val (.int n)] [(.int (cs.getD 3 0)), (.int (3 : Int32)), (.ref b200), (.ref b200), (.ref b199), (.ref b199)])) (fun _ zk => ldCV X207 hx hZ e207 f208 (j := (3 : Int32)) ⟨by decide, by decide⟩ (v := (.int (cs.getD 3 0))) (own_getD cs 3) (g := (mkF m 479 #[.val (.ref b), .val (.int n)] [(.int (3 : Int32)), (.ref b), (.int (3 : Int32)), (.ref b200), (.ref b200), (.ref b199), (.ref b199)])) rfl (rest := [(.int (3 : Int32)), (.ref b200), (.ref b200), (.ref b199), (.ref b199)]) rfl (hb hby d1_479) zk) ?_
                      obtain ⟨T209, h209, X209, e209, W209, V209, st209⟩ := stCV X207 hx hZ e207 V207' (j := (3 : Int32)) (i := 3) (by decide) rfl (Nat.le_of_ble_eq_true rfl) (g := (mkF m 480 #[.val (.ref b), .val (.int n)] [(.int (cs.getD 3 0)), (.int (3 : Int32)), (.ref b200), (.ref b200), (.ref b199), (.ref b199)])) rfl rfl (hb hby d1_480)
                      rw [nar_cid (x := cs.getD 3 0) (own_rg hr hcs (by decide))] at V209
                      have V209' : Arv Z h209 b200 k200 .char (10 : Int32) [(.int (cs.getD 0 0)), (.int (cs.getD 1 0)), (.int (cs.getD 2 0)), (.int (cs.getD 3 0)), (.int (0 : Int32)), (.int (0 : Int32)), (.int (0 : Int32)), (.int (0 : Int32)), (.int (0 : Int32)), (.int (0 : Int32))] (.int (0 : Int32)) := V209
                      have N209 := Fr.snoc X209 N207 (Nat.le_trans Z0 (Nat.le_trans E199.1 (Nat.le_of_eq g200.symm)))
                      refine Go.st (T' := T209) (g' := (mkF m 481 #[.val (.ref b), .val (.int n)] [(.ref b200), (.ref b199), (.ref b199)])) (fun _ zk => st209 _ zk) ?_
                      refine Go.st (T' := T209) (g' := (mkF m 482 #[.val (.ref b), .val (.int n)] [(.ref b200), (.ref b200), (.ref b199), (.ref b199)])) (fun _ zk => XS.dup X209.here hx rfl (hb hby d1_481) rfl rfl zk) ?_
                      refine Go.st (T' := T209) (g' := (mkF m 483 #[.val (.ref b), .val (.int n)] [(.int (4 : Int32)), (.ref b200), (.ref b200), (.ref b199), (.ref b199)])) (fun _ zk => XS.iconst X209.here hx rfl (hb hby d1_482) zk) ?_
                      refine Go.st (T' := T209) (g' := (mkF m 484 #[.val (.ref b), .val (.int n)] [(.ref b), (.int (4 : Int32)), (.ref b200), (.ref b200), (.ref b199), (.ref b199)])) (fun _ zk => XS.aloadN X209.here hx rfl (hb hby d1_483) rfl rfl zk) ?_
                      refine Go.st (T' := T209) (g' := (mkF m 485 #[.val (.ref b), .val (.int n)] [(.int (4 : Int32)), (.ref b), (.int (4 : Int32)), (.ref b200), (.ref b200), (.ref b199), (.ref b199)])) (fun _ zk => XS.iconst X209.here hx rfl (hb hby d1_484) zk) ?_
                      have f210 := (f208.other W209 (ne_lt VC.lt E199.1 (Nat.le_of_eq g200.symm)))
                      refine Go.st (T' := T209) (g' := (mkF m 486 #[.val (.ref b), .val (.int n)] [(.int (cs.getD 4 0)), (.int (4 : Int32)), (.ref b200), (.ref b200), (.ref b199), (.ref b199)])) (fun _ zk => ldCV X209 hx hZ e209 f210 (j := (4 : Int32)) ⟨by decide, by decide⟩ (v := (.int (cs.getD 4 0))) (own_getD cs 4) (g := (mkF m 485 #[.val (.ref b), .val (.int n)] [(.int (4 : Int32)), (.ref b), (.int (4 : Int32)), (.ref b200), (.ref b200), (.ref b199), (.ref b199)])) rfl (rest := [(.int (4 : Int32)), (.ref b200), (.ref b200), (.ref b199), (.ref b199)]) rfl (hb hby d1_485) zk) ?_
                      obtain ⟨T211, h211, X211, e211, W211, V211, st211⟩ := stCV X209 hx hZ e209 V209' (j := (4 : Int32)) (i := 4) (by decide) rfl (Nat.le_of_ble_eq_true rfl) (g := (mkF m 486 #[.val (.ref b), .val (.int n)] [(.int (cs.getD 4 0)), (.int (4 : Int32)), (.ref b200), (.ref b200), (.ref b199), (.ref b199)])) rfl rfl (hb hby d1_486)
                      rw [nar_cid (x := cs.getD 4 0) (own_rg hr hcs (by decide))] at V211
                      have V211' : Arv Z h211 b200 k200 .char (10 : Int32) [(.int (cs.getD 0 0)), (.int (cs.getD 1 0)), (.int (cs.getD 2 0)), (.int (cs.getD 3 0)), (.int (cs.getD 4 0)), (.int (0 : Int32)), (.int (0 : Int32)), (.int (0 : Int32)), (.int (0 : Int32)), (.int (0 : Int32))] (.int (0 : Int32)) := V211
                      have N211 := Fr.snoc X211 N209 (Nat.le_trans Z0 (Nat.le_trans E199.1 (Nat.le_of_eq g200.symm)))
                      refine Go.st (T' := T211) (g' := (mkF m 487 #[.val (.ref b), .val (.int n)] [(.ref b200), (.ref b199), (.ref b199)])) (fun _ zk => st211 _ zk) ?_
                      refine Go.st (T' := T211) (g' := (mkF m 488 #[.val (.ref b), .val (.int n)] [(.ref b200), (.ref b200), (.ref b199), (.ref b199)])) (fun _ zk => XS.dup X211.here hx rfl (hb hby d1_487) rfl rfl zk) ?_
                      refine Go.st (T' := T211) (g' := (mkF m 489 #[.val (.ref b), .val (.int n)] [(.int (5 : Int32)), (.ref b200), (.ref b200), (.ref b199), (.ref b199)])) (fun _ zk => XS.iconst X211.here hx rfl (hb hby d1_488) zk) ?_
                      refine Go.st (T' := T211) (g' := (mkF m 490 #[.val (.ref b), .val (.int n)] [(.ref b), (.int (5 : Int32)), (.ref b200), (.ref b200), (.ref b199), (.ref b199)])) (fun _ zk => XS.aloadN X211.here hx rfl (hb hby d1_489) rfl rfl zk) ?_
                      refine Go.st (T' := T211) (g' := (mkF m 491 #[.val (.ref b), .val (.int n)] [(.int (5 : Int32)), (.ref b), (.int (5 : Int32)), (.ref b200), (.ref b200), (.ref b199), (.ref b199)])) (fun _ zk => XS.iconst X211.here hx rfl (hb hby d1_490) zk) ?_
                      have f212 := (f210.other W211 (ne_lt VC.lt E199.1 (Nat.le_of_eq g200.symm)))
                      refine Go.st (T' := T211) (g' := (mkF m 492 #[.val (.ref b), .val (.int n)] [(.int (cs.getD 5 0)), (.int (5 : Int32)), (.ref b200), (.ref b200), (.ref b199), (.ref b199)])) (fun _ zk => ldCV X211 hx hZ e211 f212 (j := (5 : Int32)) ⟨by decide, by decide⟩ (v := (.int (cs.getD 5 0))) (own_getD cs 5) (g := (mkF m 491 #[.val (.ref b), .val (.int n)] [(.int (5 : Int32)), (.ref b), (.int (5 : Int32)), (.ref b200), (.ref b200), (.ref b199), (.ref b199)])) rfl (rest := [(.int (5 : Int32)), (.ref b200), (.ref b200), (.ref b199), (.ref b199)]) rfl (hb hby d1_491) zk) ?_
                      obtain ⟨T213, h213, X213, e213, W213, V213, st213⟩ := stCV X211 hx hZ e211 V211' (j := (5 : Int32)) (i := 5) (by decide) rfl (Nat.le_of_ble_eq_true rfl) (g := (mkF m 492 #[.val (.ref b), .val (.int n)] [(.int (cs.getD 5 0)), (.int (5 : Int32)), (.ref b200), (.ref b200), (.ref b199), (.ref b199)])) rfl rfl (hb hby d1_492)
                      rw [nar_cid (x := cs.getD 5 0) (own_rg hr hcs (by decide))] at V213
                      have V213' : Arv Z h213 b200 k200 .char (10 : Int32) [(.int (cs.getD 0 0)), (.int (cs.getD 1 0)), (.int (cs.getD 2 0)), (.int (cs.getD 3 0)), (.int (cs.getD 4 0)), (.int (cs.getD 5 0)), (.int (0 : Int32)), (.int (0 : Int32)), (.int (0 : Int32)), (.int (0 : Int32))] (.int (0 : Int32)) := V213
                      have N213 := Fr.snoc X213 N211 (Nat.le_trans Z0 (Nat.le_trans E199.1 (Nat.le_of_eq g200.symm)))
                      refine Go.st (T' := T213) (g' := (mkF m 493 #[.val (.ref b), .val (.int n)] [(.ref b200), (.ref b199), (.ref b199)])) (fun _ zk => st213 _ zk) ?_
                      refine Go.st (T' := T213) (g' := (mkF m 494 #[.val (.ref b), .val (.int n)] [(.ref b200), (.ref b200), (.ref b199), (.ref b199)])) (fun _ zk => XS.dup X213.here hx rfl (hb hby d1_493) rfl rfl zk) ?_
                      refine Go.st (T' := T213) (g' := (mkF m 496 #[.val (.ref b), .val (.int n)] [(.int (6 : Int32)), (.ref b200), (.ref b200), (.ref b199), (.ref b199)])) (fun _ zk => XS.bipush X213.here hx rfl (hb hby d1_494) zk) ?_
                      refine Go.st (T' := T213) (g' := (mkF m 497 #[.val (.ref b), .val (.int n)] [(.ref b), (.int (6 : Int32)), (.ref b200), (.ref b200), (.ref b199), (.ref b199)])) (fun _ zk => XS.aloadN X213.here hx rfl (hb hby d1_496) rfl rfl zk) ?_
                      refine Go.st (T' := T213) (g' := (mkF m 499 #[.val (.ref b), .val (.int n)] [(.int (6 : Int32)), (.ref b), (.int (6 : Int32)), (.ref b200), (.ref b200), (.ref b199), (.ref b199)])) (fun _ zk => XS.bipush X213.here hx rfl (hb hby d1_497) zk) ?_
                      have f214 := (f212.other W213 (ne_lt VC.lt E199.1 (Nat.le_of_eq g200.symm)))
                      refine Go.st (T' := T213) (g' := (mkF m 500 #[.val (.ref b), .val (.int n)] [(.int (cs.getD 6 0)), (.int (6 : Int32)), (.ref b200), (.ref b200), (.ref b199), (.ref b199)])) (fun _ zk => ldCV X213 hx hZ e213 f214 (j := (6 : Int32)) ⟨by decide, by decide⟩ (v := (.int (cs.getD 6 0))) (own_getD cs 6) (g := (mkF m 499 #[.val (.ref b), .val (.int n)] [(.int (6 : Int32)), (.ref b), (.int (6 : Int32)), (.ref b200), (.ref b200), (.ref b199), (.ref b199)])) rfl (rest := [(.int (6 : Int32)), (.ref b200), (.ref b200), (.ref b199), (.ref b199)]) rfl (hb hby d1_499) zk) ?_
                      obtain ⟨T215, h215, X215, e215, W215, V215, st215⟩ := stCV X213 hx hZ e213 V213' (j := (6 : Int32)) (i := 6) (by decide) rfl (Nat.le_of_ble_eq_true rfl) (g := (mkF m 500 #[.val (.ref b), .val (.int n)] [(.int (cs.getD 6 0)), (.int (6 : Int32)), (.ref b200), (.ref b200), (.ref b199), (.ref b199)])) rfl rfl (hb hby d1_500)
                      rw [nar_cid (x := cs.getD 6 0) (own_rg hr hcs (by decide))] at V215
                      have V215' : Arv Z h215 b200 k200 .char (10 : Int32) [(.int (cs.getD 0 0)), (.int (cs.getD 1 0)), (.int (cs.getD 2 0)), (.int (cs.getD 3 0)), (.int (cs.getD 4 0)), (.int (cs.getD 5 0)), (.int (cs.getD 6 0)), (.int (0 : Int32)), (.int (0 : Int32)), (.int (0 : Int32))] (.int (0 : Int32)) := V215
                      have N215 := Fr.snoc X215 N213 (Nat.le_trans Z0 (Nat.le_trans E199.1 (Nat.le_of_eq g200.symm)))
                      refine Go.st (T' := T215) (g' := (mkF m 501 #[.val (.ref b), .val (.int n)] [(.ref b200), (.ref b199), (.ref b199)])) (fun _ zk => st215 _ zk) ?_
                      refine Go.st (T' := T215) (g' := (mkF m 502 #[.val (.ref b), .val (.int n)] [(.ref b200), (.ref b200), (.ref b199), (.ref b199)])) (fun _ zk => XS.dup X215.here hx rfl (hb hby d1_501) rfl rfl zk) ?_
                      refine Go.st (T' := T215) (g' := (mkF m 504 #[.val (.ref b), .val (.int n)] [(.int (7 : Int32)), (.ref b200), (.ref b200), (.ref b199), (.ref b199)])) (fun _ zk => XS.bipush X215.here hx rfl (hb hby d1_502) zk) ?_
                      refine Go.st (T' := T215) (g' := (mkF m 505 #[.val (.ref b), .val (.int n)] [(.ref b), (.int (7 : Int32)), (.ref b200), (.ref b200), (.ref b199), (.ref b199)])) (fun _ zk => XS.aloadN X215.here hx rfl (hb hby d1_504) rfl rfl zk) ?_
                      refine Go.st (T' := T215) (g' := (mkF m 507 #[.val (.ref b), .val (.int n)] [(.int (7 : Int32)), (.ref b), (.int (7 : Int32)), (.ref b200), (.ref b200), (.ref b199), (.ref b199)])) (fun _ zk => XS.bipush X215.here hx rfl (hb hby d1_505) zk) ?_
                      have f216 := (f214.other W215 (ne_lt VC.lt E199.1 (Nat.le_of_eq g200.symm)))
                      refine Go.st (T' := T215) (g' := (mkF m 508 #[.val (.ref b), .val (.int n)] [(.int (cs.getD 7 0)), (.int (7 : Int32)), (.ref b200), (.ref b200), (.ref b199), (.ref b199)])) (fun _ zk => ldCV X215 hx hZ e215 f216 (j := (7 : Int32)) ⟨by decide, by decide⟩ (v := (.int (cs.getD 7 0))) (own_getD cs 7) (g := (mkF m 507 #[.val (.ref b), .val (.int n)] [(.int (7 : Int32)), (.ref b), (.int (7 : Int32)), (.ref b200), (.ref b200), (.ref b199), (.ref b199)])) rfl (rest := [(.int (7 : Int32)), (.ref b200), (.ref b200), (.ref b199), (.ref b199)]) rfl (hb hby d1_507) zk) ?_
                      obtain ⟨T217, h217, X217, e217, W217, V217, st217⟩ := stCV X215 hx hZ e215 V215' (j := (7 : Int32)) (i := 7) (by decide) rfl (Nat.le_of_ble_eq_true rfl) (g := (mkF m 508 #[.val (.ref b), .val (.int n)] [(.int (cs.getD 7 0)), (.int (7 : Int32)), (.ref b200), (.ref b200), (.ref b199), (.ref b199)])) rfl rfl (hb hby d1_508)
                      rw [nar_cid (x := cs.getD 7 0) (own_rg hr hcs (by decide))] at V217
                      have V217' : Arv Z h217 b200 k200 .char (10 : Int32) [(.int (cs.getD 0 0)), (.int (cs.getD 1 0)), (.int (cs.getD 2 0)), (.int (cs.getD 3 0)), (.int (cs.getD 4 0)), (.int (cs.getD 5 0)), (.int (cs.getD 6 0)), (.int (cs.getD 7 0)), (.int (0 : Int32)), (.int (0 : Int32))] (.int (0 : Int32)) := V217
                      have N217 := Fr.snoc X217 N215 (Nat.le_trans Z0 (Nat.le_trans E199.1 (Nat.le_of_eq g200.symm)))
                      refine Go.st (T' := T217) (g' := (mkF m 509 #[.val (.ref b), .val (.int n)] [(.ref b200), (.ref b199), (.ref b199)])) (fun _ zk => st217 _ zk) ?_
                      refine Go.st (T' := T217) (g' := (mkF m 510 #[.val (.ref b), .val (.int n)] [(.ref b200), (.ref b200), (.ref b199), (.ref b199)])) (fun _ zk => XS.dup X217.here hx rfl (hb hby d1_509) rfl rfl zk) ?_
                      refine Go.st (T' := T217) (g' := (mkF m 512 #[.val (.ref b), .val (.int n)] [(.int (8 : Int32)), (.ref b200), (.ref b200), (.ref b199), (.ref b199)])) (fun _ zk => XS.bipush X217.here hx rfl (hb hby d1_510) zk) ?_
                      refine Go.st (T' := T217) (g' := (mkF m 513 #[.val (.ref b), .val (.int n)] [(.ref b), (.int (8 : Int32)), (.ref b200), (.ref b200), (.ref b199), (.ref b199)])) (fun _ zk => XS.aloadN X217.here hx rfl (hb hby d1_512) rfl rfl zk) ?_
                      refine Go.st (T' := T217) (g' := (mkF m 515 #[.val (.ref b), .val (.int n)] [(.int (8 : Int32)), (.ref b), (.int (8 : Int32)), (.ref b200), (.ref b200), (.ref b199), (.ref b199)])) (fun _ zk => XS.bipush X217.here hx rfl (hb hby d1_513) zk) ?_
                      have f218 := (f216.other W217 (ne_lt VC.lt E199.1 (Nat.le_of_eq g200.symm)))
                      refine Go.st (T' := T217) (g' := (mkF m 516 #[.val (.ref b), .val (.int n)] [(.int (cs.getD 8 0)), (.int (8 : Int32)), (.ref b200), (.ref b200), (.ref b199), (.ref b199)])) (fun _ zk => ldCV X217 hx hZ e217 f218 (j := (8 : Int32)) ⟨by decide, by decide⟩ (v := (.int (cs.getD 8 0))) (own_getD cs 8) (g := (mkF m 515 #[.val (.ref b), .val (.int n)] [(.int (8 : Int32)), (.ref b), (.int (8 : Int32)), (.ref b200), (.ref b200), (.ref b199), (.ref b199)])) rfl (rest := [(.int (8 : Int32)), (.ref b200), (.ref b200), (.ref b199), (.ref b199)]) rfl (hb hby d1_515) zk) ?_
                      obtain ⟨T219, h219, X219, e219, W219, V219, st219⟩ := stCV X217 hx hZ e217 V217' (j := (8 : Int32)) (i := 8) (by decide) rfl (Nat.le_of_ble_eq_true rfl) (g := (mkF m 516 #[.val (.ref b), .val (.int n)] [(.int (cs.getD 8 0)), (.int (8 : Int32)), (.ref b200), (.ref b200), (.ref b199), (.ref b199)])) rfl rfl (hb hby d1_516)
                      rw [nar_cid (x := cs.getD 8 0) (own_rg hr hcs (by decide))] at V219
                      have V219' : Arv Z h219 b200 k200 .char (10 : Int32) [(.int (cs.getD 0 0)), (.int (cs.getD 1 0)), (.int (cs.getD 2 0)), (.int (cs.getD 3 0)), (.int (cs.getD 4 0)), (.int (cs.getD 5 0)), (.int (cs.getD 6 0)), (.int (cs.getD 7 0)), (.int (cs.getD 8 0)), (.int (0 : Int32))] (.int (0 : Int32)) := V219
                      have N219 := Fr.snoc X219 N217 (Nat.le_trans Z0 (Nat.le_trans E199.1 (Nat.le_of_eq g200.symm)))
                      refine Go.st (T' := T219) (g' := (mkF m 517 #[.val (.ref b), .val (.int n)] [(.ref b200), (.ref b199), (.ref b199)])) (fun _ zk => st219 _ zk) ?_
                      refine Go.st (T' := T219) (g' := (mkF m 518 #[.val (.ref b), .val (.int n)] [(.ref b200), (.ref b200), (.ref b199), (.ref b199)])) (fun _ zk => XS.dup X219.here hx rfl (hb hby d1_517) rfl rfl zk) ?_
                      refine Go.st (T' := T219) (g' := (mkF m 520 #[.val (.ref b), .val (.int n)] [(.int (9 : Int32)), (.ref b200), (.ref b200), (.ref b199), (.ref b199)])) (fun _ zk => XS.bipush X219.here hx rfl (hb hby d1_518) zk) ?_
                      refine Go.st (T' := T219) (g' := (mkF m 521 #[.val (.ref b), .val (.int n)] [(.ref b), (.int (9 : Int32)), (.ref b200), (.ref b200), (.ref b199), (.ref b199)])) (fun _ zk => XS.aloadN X219.here hx rfl (hb hby d1_520) rfl rfl zk) ?_
                      refine Go.st (T' := T219) (g' := (mkF m 523 #[.val (.ref b), .val (.int n)] [(.int (9 : Int32)), (.ref b), (.int (9 : Int32)), (.ref b200), (.ref b200), (.ref b199), (.ref b199)])) (fun _ zk => XS.bipush X219.here hx rfl (hb hby d1_521) zk) ?_
                      have f220 := (f218.other W219 (ne_lt VC.lt E199.1 (Nat.le_of_eq g200.symm)))
                      refine Go.st (T' := T219) (g' := (mkF m 524 #[.val (.ref b), .val (.int n)] [(.int (cs.getD 9 0)), (.int (9 : Int32)), (.ref b200), (.ref b200), (.ref b199), (.ref b199)])) (fun _ zk => ldCV X219 hx hZ e219 f220 (j := (9 : Int32)) ⟨by decide, by decide⟩ (v := (.int (cs.getD 9 0))) (own_getD cs 9) (g := (mkF m 523 #[.val (.ref b), .val (.int n)] [(.int (9 : Int32)), (.ref b), (.int (9 : Int32)), (.ref b200), (.ref b200), (.ref b199), (.ref b199)])) rfl (rest := [(.int (9 : Int32)), (.ref b200), (.ref b200), (.ref b199), (.ref b199)]) rfl (hb hby d1_523) zk) ?_
                      obtain ⟨T221, h221, X221, e221, W221, V221, st221⟩ := stCV X219 hx hZ e219 V219' (j := (9 : Int32)) (i := 9) (by decide) rfl (Nat.le_of_ble_eq_true rfl) (g := (mkF m 524 #[.val (.ref b), .val (.int n)] [(.int (cs.getD 9 0)), (.int (9 : Int32)), (.ref b200), (.ref b200), (.ref b199), (.ref b199)])) rfl rfl (hb hby d1_524)
                      rw [nar_cid (x := cs.getD 9 0) (own_rg hr hcs (by decide))] at V221
                      have V221' : Arv Z h221 b200 k200 .char (10 : Int32) [(.int (cs.getD 0 0)), (.int (cs.getD 1 0)), (.int (cs.getD 2 0)), (.int (cs.getD 3 0)), (.int (cs.getD 4 0)), (.int (cs.getD 5 0)), (.int (cs.getD 6 0)), (.int (cs.getD 7 0)), (.int (cs.getD 8 0)), (.int (cs.getD 9 0))] (.int (0 : Int32)) := V221
                      have N221 := Fr.snoc X221 N219 (Nat.le_trans Z0 (Nat.le_trans E199.1 (Nat.le_of_eq g200.symm)))
                      refine Go.st (T' := T221) (g' := (mkF m 525 #[.val (.ref b), .val (.int n)] [(.ref b200), (.ref b199), (.ref b199)])) (fun _ zk => st221 _ zk) ?_
                      have hrg : ∀ x ∈ [(cs.getD 0 0), (cs.getD 1 0), (cs.getD 2 0), (cs.getD 3 0), (cs.getD 4 0), (cs.getD 5 0), (cs.getD 6 0), (cs.getD 7 0), (cs.getD 8 0), (cs.getD 9 0)], 0 ≤ x.toInt ∧ x.toInt < 65536 := by
                        simp only [List.forall_mem_cons]
                        exact ⟨own_rg hr hcs (by decide), own_rg hr hcs (by decide), own_rg hr hcs (by decide), own_rg hr hcs (by decide), own_rg hr hcs (by decide), own_rg hr hcs (by decide), own_rg hr hcs (by decide), own_rg hr hcs (by decide), own_rg hr hcs (by decide), own_rg hr hcs (by decide), fun _ q => nomatch q⟩
                      have xt222 : Ext h199 h221 := ((((((((((E200.thenW W203 (Nat.le_of_eq g200.symm)).thenW W205 (Nat.le_of_eq g200.symm)).thenW W207 (Nat.le_of_eq g200.symm)).thenW W209 (Nat.le_of_eq g200.symm)).thenW W211 (Nat.le_of_eq g200.symm)).thenW W213 (Nat.le_of_eq g200.symm)).thenW W215 (Nat.le_of_eq g200.symm)).thenW W217 (Nat.le_of_eq g200.symm)).thenW W219 (Nat.le_of_eq g200.symm)).thenW W221 (Nat.le_of_eq g200.symm))
                      have f223 := A199.ext xt222
                      have f224 := F199_coder.ext xt222
                      have f225 := F199_value.ext xt222
                      have xt227 : Ext h0 h221 := ((((((((((xt201.thenW W203 (Nat.le_trans E199.1 (Nat.le_of_eq g200.symm))).thenW W205 (Nat.le_trans E199.1 (Nat.le_of_eq g200.symm))).thenW W207 (Nat.le_trans E199.1 (Nat.le_of_eq g200.symm))).thenW W209 (Nat.le_trans E199.1 (Nat.le_of_eq g200.symm))).thenW W211 (Nat.le_trans E199.1 (Nat.le_of_eq g200.symm))).thenW W213 (Nat.le_trans E199.1 (Nat.le_of_eq g200.symm))).thenW W215 (Nat.le_trans E199.1 (Nat.le_of_eq g200.symm))).thenW W217 (Nat.le_trans E199.1 (Nat.le_of_eq g200.symm))).thenW W219 (Nat.le_trans E199.1 (Nat.le_of_eq g200.symm))).thenW W221 (Nat.le_trans E199.1 (Nat.le_of_eq g200.symm)))
                      have f228 := O0.ext xt227
                      refine Go.callSp (y := (⟨"java/lang/String", "<init>", "([C)V"⟩ : MethodName)) (a := b199) X221 hx hZ hown e221 rfl (w10 hw) (w11 hw) (w9 hw) (w12 hw) (by decide) (argsL := [(.ref b200)]) (rest := [(.ref b199)]) (W := 1) (rm_init1W l Z a0 hw [] b199 b200 k200 [(cs.getD 0 0), (cs.getD 1 0), (cs.getD 2 0), (cs.getD 3 0), (cs.getD 4 0), (cs.getD 5 0), (cs.getD 6 0), (cs.getD 7 0), (cs.getD 8 0), (cs.getD 9 0)] 10 zc h221 n0 (Nat.le_trans Z0 (Nat.le_trans (Nat.le_trans (Nat.le_trans (Nat.le_trans (Nat.le_trans (Nat.le_trans (Nat.le_trans (Nat.le_trans (Nat.le_trans (Nat.le_trans (Nat.le_trans E199.1 E200.1) (Keep.of_wr W203).1) (Keep.of_wr W205).1) (Keep.of_wr W207).1) (Keep.of_wr W209).1) (Keep.of_wr W211).1) (Keep.of_wr W213).1) (Keep.of_wr W215).1) (Keep.of_wr W217).1) (Keep.of_wr W219).1) (Keep.of_wr W221).1)) f228 f223 (Nat.le_trans Z0 (Nat.le_trans (Nat.le_refl _) (Nat.le_of_eq g199.symm))) f224 f225 V221' (by decide) rfl (by decide) (by decide) hrg CS hz UA UH UL) rfl (lenOf pd25 rfl) rfl (by rw [hml]; rfl) rfl (by show 2 * 0 + _ ≤ _; exact Nat.le_of_eq rfl) (by decide) (by decide) (by decide) (by decide) (hb hby d1_525) ?_
                      intro v226 T226 h226 L226 X226 e226 q226
                      obtain ⟨hv226, Nf226, K226, SC⟩ := q226
                      subst hv226
                      have N226 := Fr.app N221 Nf226
                      show Go p.tables e below _ T226 (mkF m 528 #[.val (.ref b), .val (.int n)] [(.ref b199)])
                      have xt229 : Ext h0 h226 := (xt227.thenK K226 (allS (P := fun x => h0.size ≤ x) (Nat.le_of_eq g199.symm) all0))
                      have cr230 := chrE hA xt229
                      refine Go.retAS X226 hx hlk hS (Nat.le_trans (Nat.zero_le _) (Nat.le_trans (Nat.le_trans (Nat.le_trans (Nat.le_trans (Nat.le_trans (Nat.le_trans (Nat.le_trans (Nat.le_trans (Nat.le_trans (Nat.le_trans (Nat.le_trans (Nat.le_trans E199.1 E200.1) (Keep.of_wr W203).1) (Keep.of_wr W205).1) (Keep.of_wr W207).1) (Keep.of_wr W209).1) (Keep.of_wr W211).1) (Keep.of_wr W213).1) (Keep.of_wr W215).1) (Keep.of_wr W217).1) (Keep.of_wr W219).1) (Keep.of_wr W221).1) K226.1)) cr230 hZ hEL hret rfl rfl (hb hby d1_528) (by decide) (by decide) e226 ?_
                      exact ⟨_, [(cs.getD 0 0), (cs.getD 1 0), (cs.getD 2 0), (cs.getD 3 0), (cs.getD 4 0), (cs.getD 5 0), (cs.getD 6 0), (cs.getD 7 0), (cs.getD 8 0), (cs.getD 9 0)], rfl, N226, xt229, (Nat.le_trans (Nat.le_refl _) (Nat.le_of_eq g199.symm)), Nat.le_of_ble_eq_true rfl, hrg, SC⟩
  · refine Go.st (T' := s₁) (g' := (mkF m 4 #[.val (.ref b), .val (.int n)] [])) (fun _ zk => XS.ifNo X0.here hx rfl (hb hby d1_1) rfl ((if0 _ _).trans (flt hc1).2.2.1) zk) ?_
    obtain ⟨T231, h231, X231, e231, E231, A231, D231, -, st231⟩ := newO X0 hx hZ hown (w7 hw) (w8 hw) (w9 hw) e0 (g := (mkF m 4 #[.val (.ref b), .val (.int n)] [])) rfl (hb hby d1_4) (by decide) (by decide)
    obtain ⟨b231, g231⟩ : ∃ z, z = h0.size := ⟨_, rfl⟩
    rw [← g231] at A231 D231 st231
    have F231_value : Fld Z h231 b231 "java/lang/String" "value" "[B" .null := D231 (Or.inr (w22 hw)) (ty := (.array .byte)) (by decide)
    have F231_coder : Fld Z h231 b231 "java/lang/String" "coder" "B" (.int (0 : Int32)) := D231 (Or.inr (w23 hw)) (ty := .byte) (by decide)
    refine Go.st (T' := T231) (g' := (mkF m 7 #[.val (.ref b), .val (.int n)] [(.ref b231)])) (fun _ zk => st231 _ zk) ?_
    refine Go.st (T' := T231) (g' := (mkF m 8 #[.val (.ref b), .val (.int n)] [(.ref b231), (.ref b231)])) (fun _ zk => XS.dup X231.here hx rfl (hb hby d1_7) rfl rfl zk) ?_
    refine Go.st (T' := T231) (g' := (mkF m 9 #[.val (.ref b), .val (.int n)] [(.int (0 : Int32)), (.ref b231), (.ref b231)])) (fun _ zk => XS.iconst X231.here hx rfl (hb hby d1_8) zk) ?_
    obtain ⟨T232, h232, k232, X232, e232, E232, A232, st232⟩ := newP (aty := .char) X231 hx hZ (w2 hw) e231 (g := (mkF m 9 #[.val (.ref b), .val (.int n)] [(.int (0 : Int32)), (.ref b231), (.ref b231)])) rfl (hb hby d1_9) rfl (by decide) (cap := 0) (by decide) (by decide) (by decide) (by decide)
    obtain ⟨b232, g232⟩ : ∃ z, z = h231.size := ⟨_, rfl⟩
    rw [← g232] at A232 st232
    have V232 : Arv Z h232 b232 k232 .char (0 : Int32) [] (.int (0 : Int32)) := (Arv.new A232 (by decide)).pad (pad_rep [] (.int (0 : Int32)) 0)
    refine Go.st (T' := T232) (g' := (mkF m 11 #[.val (.ref b), .val (.int n)] [(.ref b232), (.ref b231), (.ref b231)])) (fun _ zk => st232 _ zk) ?_
    have xt233 : Ext h231 h232 := E232
    have f234 := A231.ext xt233
    have f235 := F231_coder.ext xt233
    have f236 := F231_value.ext xt233
    have cr238 := (chrE hA E231)
    have sa239 := (Safe.ext E232 (cr238).1 (Safe.ext E231 (hA).1 (Safe.new (Nat.le_of_eq g231.symm))))
    have xt240 : Ext h0 h232 := (E231.tr E232)
    have cr241 := chrE hA xt240
    refine Go.callSpS (y := (⟨"java/lang/String", "<init>", "([C)V"⟩ : MethodName)) (a := b231) X232 hx hZ hown e232 hEL cr241.1 hS (Nat.le_trans (Nat.zero_le _) (Nat.le_trans E231.1 E232.1)) rfl (w10 hw) (w11 hw) (w9 hw) (w12 hw) (by decide) (argsL := [(.ref b232)]) (rest := [(.ref b231)]) (W := 1) (rm_init1_0 l Z a0 hw [] b231 b232 k232 h232 n0 (Nat.le_trans Z0 (Nat.le_trans E231.1 E232.1)) f234 (Nat.le_trans Z0 (Nat.le_trans (Nat.le_refl _) (Nat.le_of_eq g231.symm))) f235 f236 V232) (allS (P := fun x => x < h232.size ∧ Safe Z EL0 s.vm h232 x) ⟨(Nat.lt_of_lt_of_le A231.lt E232.1), sa239⟩ all0) rfl (lenOf pd25 rfl) rfl (by rw [hml]; rfl) rfl (by show 2 * 0 + _ ≤ _; exact Nat.le_of_eq rfl) (by decide) (by decide) (by decide) (by decide) (hb hby d1_11) ?_
    intro v237 T237 h237 L237 X237 e237 q237 hS hZ hown cr237
    obtain ⟨hv237, Nf237, K237, C237, t237, k237, F237, V237⟩ := q237
    subst hv237
    have N237 := Fr.app N0 Nf237
    have ca242 := cr241.trans cr237
    show Go p.tables e below _ T237 (mkF m 14 #[.val (.ref b), .val (.int n)] [(.ref b231)])
    have f243 := (f234.keep K237)
    have SC : StrC Z h237 b231 0 [] := ⟨0, [], Or.inl ⟨rfl, rfl, fun i q => absurd q (Nat.not_lt_zero _), fun i q => absurd q (Nat.not_lt_zero _)⟩, _, _, f243, C237, F237, V237⟩
    have xt244 : Ext h0 h237 := (xt240.thenK K237 (allS (P := fun x => h0.size ≤ x) (Nat.le_of_eq g231.symm) all0))
    refine Go.retAS X237 hx hlk hS (Nat.le_refl _) ca242 hZ hEL hret rfl rfl (hb hby d1_14) (by decide) (by decide) e237 ?_
    exact ⟨_, [], rfl, N237, xt244, (Nat.le_trans (Nat.le_refl _) (Nat.le_of_eq g231.symm)), Nat.le_of_ble_eq_true rfl, (fun _ q => nomatch q), SC⟩
theorem w0 {a0 : Array Value} {Z : State} (hw : ∀ d ∈ tables_1, d.before a0 Z = true) : ((Jvm.Cond.constant "com/example/tierbook/tierbook/cli/FlagNamedPinLaw" (7 : Nat) (65535 : Int32))).before a0 Z = true := hw _ (List.mem_of_getElem? (i := 0) rfl)
theorem w1 {a0 : Array Value} {Z : State} (hw : ∀ d ∈ tables_1, d.before a0 Z = true) : ((Jvm.Cond.constant "com/example/tierbook/tierbook/cli/FlagNamedPinLaw" (8 : Nat) (2147483647 : Int32))).before a0 Z = true := hw _ (List.mem_of_getElem? (i := 1) rfl)
theorem w6 {a0 : Array Value} {Z : State} (hw : ∀ d ∈ tables_1, d.before a0 Z = true) : ((Jvm.Cond.code ({ cls := "com/example/tierbook/tierbook/cli/FlagNamedPinLaw", name := "str", desc := "([CI)Ljava/lang/String;" } : Jvm.MethodName) method_5_code (2 : Nat) (Option.some (Jvm.ClassFile.FieldType.object "java/lang/String")))).before a0 Z = true := hw _ (List.mem_of_getElem? (i := 6) rfl)
theorem w5 {a0 : Array Value} {Z : State} (hw : ∀ d ∈ tables_1, d.before a0 Z = true) : ((Jvm.Cond.initialized "com/example/tierbook/tierbook/cli/FlagNamedPinLaw")).before a0 Z = true := hw _ (List.mem_of_getElem? (i := 5) rfl)
theorem pd26 : parseMethodDescriptor "([CI)Ljava/lang/String;" = some ⟨[(.array .char), .int], some (.object "java/lang/String")⟩ := by decide +kernel
theorem w3 {a0 : Array Value} {Z : State} (hw : ∀ d ∈ tables_1, d.before a0 Z = true) : ((Jvm.Cond.methodLink "com/example/tierbook/tierbook/cli/FlagNamedPinLaw" (18 : Nat) ({ cls := "com/example/tierbook/tierbook/cli/FlagNamedPinLaw", name := "str", desc := "([CI)Ljava/lang/String;" } : Jvm.MethodName))).before a0 Z = true := hw _ (List.mem_of_getElem? (i := 3) rfl)
theorem w4 {a0 : Array Value} {Z : State} (hw : ∀ d ∈ tables_1, d.before a0 Z = true) : ((Jvm.Cond.static ({ cls := "com/example/tierbook/tierbook/cli/FlagNamedPinLaw", name := "str", desc := "([CI)Ljava/lang/String;" } : Jvm.MethodName))).before a0 Z = true := hw _ (List.mem_of_getElem? (i := 4) rfl)
theorem w29 {a0 : Array Value} {Z : State} (hw : ∀ d ∈ tables_1, d.before a0 Z = true) : ((Jvm.Cond.methodLink "com/example/tierbook/tierbook/cli/FlagNamedPinLaw" (24 : Nat) ({ cls := "java/lang/String", name := "equals", desc := "(Ljava/lang/Object;)Z" } : Jvm.MethodName))).before a0 Z = true := hw _ (List.mem_of_getElem? (i := 29) rfl)
theorem w46 {a0 : Array Value} {Z : State} (hw : ∀ d ∈ tables_1, d.before a0 Z = true) : ((Jvm.Cond.code ({ cls := "com/example/tierbook/tierbook/cli/Flag", name := "named", desc := "(Ljava/lang/String;)Lcom/example/tierbook/tierbook/cli/Flag;" } : Jvm.MethodName) prog_5_method_4_code (5 : Nat) (Option.some (Jvm.ClassFile.FieldType.object "com/example/tierbook/tierbook/cli/Flag")))).before a0 Z = true := hw _ (List.mem_of_getElem? (i := 46) rfl)
theorem pd27 : parseMethodDescriptor "(Ljava/lang/String;)Lcom/example/tierbook/tierbook/cli/Flag;" = some ⟨[(.object "java/lang/String")], some (.object "com/example/tierbook/tierbook/cli/Flag")⟩ := by decide +kernel
theorem w43 {a0 : Array Value} {Z : State} (hw : ∀ d ∈ tables_1, d.before a0 Z = true) : ((Jvm.Cond.methodLink "com/example/tierbook/tierbook/cli/FlagNamedPinLaw" (45 : Nat) ({ cls := "com/example/tierbook/tierbook/cli/Flag", name := "named", desc := "(Ljava/lang/String;)Lcom/example/tierbook/tierbook/cli/Flag;" } : Jvm.MethodName))).before a0 Z = true := hw _ (List.mem_of_getElem? (i := 43) rfl)
theorem w44 {a0 : Array Value} {Z : State} (hw : ∀ d ∈ tables_1, d.before a0 Z = true) : ((Jvm.Cond.static ({ cls := "com/example/tierbook/tierbook/cli/Flag", name := "named", desc := "(Ljava/lang/String;)Lcom/example/tierbook/tierbook/cli/Flag;" } : Jvm.MethodName))).before a0 Z = true := hw _ (List.mem_of_getElem? (i := 44) rfl)
theorem w90 {a0 : Array Value} {Z : State} (hw : ∀ d ∈ tables_1, d.before a0 Z = true) : ((Jvm.Cond.fieldLink "com/example/tierbook/tierbook/cli/FlagNamedPinLaw" (42 : Nat) "com/example/tierbook/tierbook/cli/Flag" "VERSION" "Lcom/example/tierbook/tierbook/cli/Flag;")).before a0 Z = true := hw _ (List.mem_of_getElem? (i := 90) rfl)
theorem w144 {a0 : Array Value} {Z : State} (hw : ∀ d ∈ tables_1, d.before a0 Z = true) : ((Jvm.Cond.fieldLink "com/example/tierbook/tierbook/cli/FlagNamedPinLaw" (32 : Nat) "com/example/tierbook/tierbook/cli/Flag" "HELP" "Lcom/example/tierbook/tierbook/cli/Flag;")).before a0 Z = true := hw _ (List.mem_of_getElem? (i := 144) rfl)
theorem w143 {a0 : Array Value} {Z : State} (hw : ∀ d ∈ tables_1, d.before a0 Z = true) : ((Jvm.Cond.code ({ cls := "com/example/tierbook/tierbook/cli/FlagNamedPinLaw", name := "help", desc := "([C)V" } : Jvm.MethodName) method_3_code (1 : Nat) (Option.none : Option Jvm.ClassFile.FieldType))).before a0 Z = true := hw _ (List.mem_of_getElem? (i := 143) rfl)
theorem w141 {a0 : Array Value} {Z : State} (hw : ∀ d ∈ tables_1, d.before a0 Z = true) : ((Jvm.Cond.methodLink "com/example/tierbook/tierbook/cli/FlagNamedPinLaw" (9 : Nat) ({ cls := "com/example/tierbook/tierbook/cli/FlagNamedPinLaw", name := "help", desc := "([C)V" } : Jvm.MethodName))).before a0 Z = true := hw _ (List.mem_of_getElem? (i := 141) rfl)
theorem w142 {a0 : Array Value} {Z : State} (hw : ∀ d ∈ tables_1, d.before a0 Z = true) : ((Jvm.Cond.static ({ cls := "com/example/tierbook/tierbook/cli/FlagNamedPinLaw", name := "help", desc := "([C)V" } : Jvm.MethodName))).before a0 Z = true := hw _ (List.mem_of_getElem? (i := 142) rfl)
theorem w79 {a0 : Array Value} {Z : State} (hw : ∀ d ∈ tables_1, d.before a0 Z = true) : ((Jvm.Cond.code ({ cls := "com/example/tierbook/tierbook/cli/FlagNamedPinLaw", name := "version", desc := "([C)V" } : Jvm.MethodName) method_4_code (1 : Nat) (Option.none : Option Jvm.ClassFile.FieldType))).before a0 Z = true := hw _ (List.mem_of_getElem? (i := 79) rfl)
theorem w77 {a0 : Array Value} {Z : State} (hw : ∀ d ∈ tables_1, d.before a0 Z = true) : ((Jvm.Cond.methodLink "com/example/tierbook/tierbook/cli/FlagNamedPinLaw" (15 : Nat) ({ cls := "com/example/tierbook/tierbook/cli/FlagNamedPinLaw", name := "version", desc := "([C)V" } : Jvm.MethodName))).before a0 Z = true := hw _ (List.mem_of_getElem? (i := 77) rfl)
theorem w78 {a0 : Array Value} {Z : State} (hw : ∀ d ∈ tables_1, d.before a0 Z = true) : ((Jvm.Cond.static ({ cls := "com/example/tierbook/tierbook/cli/FlagNamedPinLaw", name := "version", desc := "([C)V" } : Jvm.MethodName))).before a0 Z = true := hw _ (List.mem_of_getElem? (i := 78) rfl)
set_option maxRecDepth 65536 in
set_option maxHeartbeats 40000000 in
theorem rm_law (l : Launch) (Z : State) (a0 : Array Value) (hw : ∀ d ∈ tables_1, d.before a0 Z = true) (ws : List Jvm.Cond) (x0 x1 x2 x3 x4 zc : Int32) (fm : Value) (vA pA rA nH nV : Addr) (kV : ClassId) (h0 : Heap) (n0 : Nat) (Z0 : n0 ≤ h0.size) (O0 : Old Z n0 h0) (CS : Sta Z Z.heap "java/lang/String" "COMPACT_STRINGS" "Z" (.int zc)) (hz : ¬ zc = 0) (FM : Sta Z Z.heap "jdk/internal/util/Preconditions" "SIOOBE_FORMATTER" "Ljava/util/function/BiFunction;" fm) (rf : fm.isRef = true) (UA : Sta Z Z.heap "java/lang/StringUTF16" "$assertionsDisabled" "Z" (.int (1 : Int32))) (UH : Sta Z Z.heap "java/lang/StringUTF16" "HI_BYTE_SHIFT" "I" (.int (0 : Int32))) (UL : Sta Z Z.heap "java/lang/StringUTF16" "LO_BYTE_SHIFT" "I" (.int (8 : Int32))) (SV : Sta Z Z.heap "com/example/tierbook/tierbook/cli/Flag" "$VALUES" "[Lcom/example/tierbook/tierbook/cli/Flag;" (.ref vA)) (EV : Exa Z Z.heap vA "[Lcom/example/tierbook/tierbook/cli/Flag;") (FV : Arv Z Z.heap vA kV (.object "com/example/tierbook/tierbook/cli/Flag") 2 [.ref pA, .ref rA] .null) (LH : Fld Z Z.heap pA "com/example/tierbook/tierbook/cli/Flag" "letter" "C" (.int 104)) (LV : Fld Z Z.heap rA "com/example/tierbook/tierbook/cli/Flag" "letter" "C" (.int 86)) (NH : Fld Z Z.heap pA "com/example/tierbook/tierbook/cli/Flag" "name" "Ljava/lang/String;" (.ref nH)) (NV : Fld Z Z.heap rA "com/example/tierbook/tierbook/cli/Flag" "name" "Ljava/lang/String;" (.ref nV)) (SHs : StrB Z Z.heap nH 0 [(45 : Int32), (45 : Int32), (104 : Int32), (101 : Int32), (108 : Int32), (112 : Int32)]) (SVs : StrB Z Z.heap nV 0 [(45 : Int32), (45 : Int32), (118 : Int32), (101 : Int32), (114 : Int32), (115 : Int32), (105 : Int32), (111 : Int32), (110 : Int32)]) (SH : Sta Z Z.heap "com/example/tierbook/tierbook/cli/Flag" "HELP" "Lcom/example/tierbook/tierbook/cli/Flag;" (.ref pA)) (SR : Sta Z Z.heap "com/example/tierbook/tierbook/cli/Flag" "VERSION" "Lcom/example/tierbook/tierbook/cli/Flag;" (.ref rA)) :
    ConS l Z EL0 x code maxLocals ret ws room_1 #[(.int x0), (.int x1), (.int x2), (.int x3), (.int x4)] h0 [] (fun v h L => v = some (.int 1) ∧ Fr n0 L) := by
  refine ConS.enter (plainFor_of_name pn24) ?_
  intro p e s m below meth c s₁ X0 hx hZ hby hml hret hlk hown hnm e0 hS hA hsf
  have N0 := Fr.nil n0
  have hEL := hEL0 hw
  have hSt := hSt0 hw
  refine Go.cast (g' := (mkF m 0 #[.val (.int x0), .val (.int x1), .val (.int x2), .val (.int x3), .val (.int x4), .unset, .unset, .unset, .unset, .unset, .unset, .unset, .unset, .unset, .unset] [])) (by first | rfl | (simp [entryFrame, mkF, argsToLocals, Value.category, maxLocals]; done)) ?_
  refine Go.st (T' := s₁) (g' := (mkF m 1 #[.val (.int x0), .val (.int x1), .val (.int x2), .val (.int x3), .val (.int x4), .unset, .unset, .unset, .unset, .unset, .unset, .unset, .unset, .unset, .unset] [(.int x0)])) (fun _ zk => XS.iloadN X0.here hx rfl (hb hby at_0) rfl zk) ?_
  refine Go.st (T' := s₁) (g' := (mkF m 3 #[.val (.int x0), .val (.int x1), .val (.int x2), .val (.int x3), .val (.int x4), .unset, .unset, .unset, .unset, .unset, .unset, .unset, .unset, .unset, .unset] [(.int (7 : Int32)), (.int x0)])) (fun _ zk => XS.bipush X0.here hx rfl (hb hby at_1) zk) ?_
  refine Go.st (T' := s₁) (g' := (mkF m 4 #[.val (.int x0), .val (.int x1), .val (.int x2), .val (.int x3), .val (.int x4), .unset, .unset, .unset, .unset, .unset, .unset, .unset, .unset, .unset, .unset] [(.int (x0 &&& (7 : Int32)))])) (fun _ zk => XS.iand X0.here hx rfl (hb hby at_3) rfl zk) ?_
  obtain ⟨kd, hkd⟩ : ∃ z, z = (x0 &&& (7 : Int32)) := ⟨_, rfl⟩
  rw [← hkd]
  refine Go.st (T' := s₁) (g' := (mkF m 6 #[.val (.int x0), .val (.int x1), .val (.int x2), .val (.int x3), .val (.int x4), .val (.int kd), .unset, .unset, .unset, .unset, .unset, .unset, .unset, .unset, .unset] [])) (fun _ zk => XS.istore X0.here hx rfl (hb hby at_4) rfl (l' := #[.val (.int x0), .val (.int x1), .val (.int x2), .val (.int x3), .val (.int x4), .val (.int kd), .unset, .unset, .unset, .unset, .unset, .unset, .unset, .unset, .unset]) rfl zk) ?_
  refine Go.st (T' := s₁) (g' := (mkF m 7 #[.val (.int x0), .val (.int x1), .val (.int x2), .val (.int x3), .val (.int x4), .val (.int kd), .unset, .unset, .unset, .unset, .unset, .unset, .unset, .unset, .unset] [(.int x0)])) (fun _ zk => XS.iloadN X0.here hx rfl (hb hby at_6) rfl zk) ?_
  refine Go.st (T' := s₁) (g' := (mkF m 9 #[.val (.int x0), .val (.int x1), .val (.int x2), .val (.int x3), .val (.int x4), .val (.int kd), .unset, .unset, .unset, .unset, .unset, .unset, .unset, .unset, .unset] [(.int (8 : Int32)), (.int x0)])) (fun _ zk => XS.bipush X0.here hx rfl (hb hby at_7) zk) ?_
  refine Go.st (T' := s₁) (g' := (mkF m 10 #[.val (.int x0), .val (.int x1), .val (.int x2), .val (.int x3), .val (.int x4), .val (.int kd), .unset, .unset, .unset, .unset, .unset, .unset, .unset, .unset, .unset] [(.int (x0 &&& (8 : Int32)))])) (fun _ zk => XS.iand X0.here hx rfl (hb hby at_9) rfl zk) ?_
  obtain ⟨j1, hj1, dj1⟩ : ∃ j1 : Int32, (True) ∧ ∀ tt, Steps p.tables e below (s₁.setTop (mkF m 18 #[.val (.int x0), .val (.int x1), .val (.int x2), .val (.int x3), .val (.int x4), .val (.int kd), .unset, .unset, .unset, .unset, .unset, .unset, .unset, .unset, .unset] [(.int j1)])) tt → Steps p.tables e below (s₁.setTop (mkF m 10 #[.val (.int x0), .val (.int x1), .val (.int x2), .val (.int x3), .val (.int x4), .val (.int kd), .unset, .unset, .unset, .unset, .unset, .unset, .unset, .unset, .unset] [(.int (x0 &&& (8 : Int32)))])) tt := by
    by_cases hc10 : (x0 &&& (8 : Int32)) = (0 : Int32)
    · refine ⟨(0 : Int32), trivial, fun tt zk => ?_⟩
      suffices zk : Steps p.tables e below (s₁.setTop (mkF m 17 #[.val (.int x0), .val (.int x1), .val (.int x2), .val (.int x3), .val (.int x4), .val (.int kd), .unset, .unset, .unset, .unset, .unset, .unset, .unset, .unset, .unset] [])) tt from XS.ifYes X0.here hx rfl (pc0 := 10) (pc' := 17) rfl (hb hby at_10) rfl ((if0 _ _).trans (teq hc10).1) (by decide) (by decide) zk
      suffices zk : Steps p.tables e below (s₁.setTop (mkF m 18 #[.val (.int x0), .val (.int x1), .val (.int x2), .val (.int x3), .val (.int x4), .val (.int kd), .unset, .unset, .unset, .unset, .unset, .unset, .unset, .unset, .unset] [(.int (0 : Int32))])) tt from XS.iconst X0.here hx rfl (hb hby at_17) zk
      exact zk
    · refine ⟨(1 : Int32), trivial, fun tt zk => ?_⟩
      suffices zk : Steps p.tables e below (s₁.setTop (mkF m 13 #[.val (.int x0), .val (.int x1), .val (.int x2), .val (.int x3), .val (.int x4), .val (.int kd), .unset, .unset, .unset, .unset, .unset, .unset, .unset, .unset, .unset] [])) tt from XS.ifNo X0.here hx rfl (hb hby at_10) rfl ((if0 _ _).trans (feq hc10).1) zk
      suffices zk : Steps p.tables e below (s₁.setTop (mkF m 14 #[.val (.int x0), .val (.int x1), .val (.int x2), .val (.int x3), .val (.int x4), .val (.int kd), .unset, .unset, .unset, .unset, .unset, .unset, .unset, .unset, .unset] [(.int (1 : Int32))])) tt from XS.iconst X0.here hx rfl (hb hby at_13) zk
      suffices zk : Steps p.tables e below (s₁.setTop (mkF m 18 #[.val (.int x0), .val (.int x1), .val (.int x2), .val (.int x3), .val (.int x4), .val (.int kd), .unset, .unset, .unset, .unset, .unset, .unset, .unset, .unset, .unset] [(.int (1 : Int32))])) tt from XS.goto X0.here hx rfl (pc0 := 14) (pc' := 18) rfl (hb hby at_14) (by decide) (by decide) zk
      exact zk
  refine Go.st dj1 ?_
  refine Go.st (T' := s₁) (g' := (mkF m 20 #[.val (.int x0), .val (.int x1), .val (.int x2), .val (.int x3), .val (.int x4), .val (.int kd), .val (.int j1), .unset, .unset, .unset, .unset, .unset, .unset, .unset, .unset] [])) (fun _ zk => XS.istore X0.here hx rfl (hb hby at_18) rfl (l' := #[.val (.int x0), .val (.int x1), .val (.int x2), .val (.int x3), .val (.int x4), .val (.int kd), .val (.int j1), .unset, .unset, .unset, .unset, .unset, .unset, .unset, .unset]) rfl zk) ?_
  refine Go.st (T' := s₁) (g' := (mkF m 21 #[.val (.int x0), .val (.int x1), .val (.int x2), .val (.int x3), .val (.int x4), .val (.int kd), .val (.int j1), .unset, .unset, .unset, .unset, .unset, .unset, .unset, .unset] [(.int x2)])) (fun _ zk => XS.iloadN X0.here hx rfl (hb hby at_20) rfl zk) ?_
  refine Go.st (T' := s₁) (g' := (mkF m 23 #[.val (.int x0), .val (.int x1), .val (.int x2), .val (.int x3), .val (.int x4), .val (.int kd), .val (.int j1), .unset, .unset, .unset, .unset, .unset, .unset, .unset, .unset] [(.int (65535 : Int32)), (.int x2)])) (fun _ zk => X0.ldcI hx hown (mvT hZ (w0 hw)) rfl (hb hby at_21) zk) ?_
  refine Go.st (T' := s₁) (g' := (mkF m 24 #[.val (.int x0), .val (.int x1), .val (.int x2), .val (.int x3), .val (.int x4), .val (.int kd), .val (.int j1), .unset, .unset, .unset, .unset, .unset, .unset, .unset, .unset] [(.int (x2 &&& (65535 : Int32)))])) (fun _ zk => XS.iand X0.here hx rfl (hb hby at_23) rfl zk) ?_
  refine Go.st (T' := s₁) (g' := (mkF m 25 #[.val (.int x0), .val (.int x1), .val (.int x2), .val (.int x3), .val (.int x4), .val (.int kd), .val (.int j1), .unset, .unset, .unset, .unset, .unset, .unset, .unset, .unset] [(.int ((x2 &&& (65535 : Int32)).toUInt32.toUInt16.toUInt32.toInt32))])) (fun _ zk => XS.i2c X0.here hx rfl (hb hby at_24) rfl zk) ?_
  obtain ⟨c1, hc1⟩ : ∃ z, z = ((x2 &&& (65535 : Int32)).toUInt32.toUInt16.toUInt32.toInt32) := ⟨_, rfl⟩
  rw [← hc1]
  have qc1 := own_c16 (x2 &&& 65535)
  rw [← hc1] at qc1
  refine Go.st (T' := s₁) (g' := (mkF m 27 #[.val (.int x0), .val (.int x1), .val (.int x2), .val (.int x3), .val (.int x4), .val (.int kd), .val (.int j1), .val (.int c1), .unset, .unset, .unset, .unset, .unset, .unset, .unset] [])) (fun _ zk => XS.istore X0.here hx rfl (hb hby at_25) rfl (l' := #[.val (.int x0), .val (.int x1), .val (.int x2), .val (.int x3), .val (.int x4), .val (.int kd), .val (.int j1), .val (.int c1), .unset, .unset, .unset, .unset, .unset, .unset, .unset]) rfl zk) ?_
  refine Go.st (T' := s₁) (g' := (mkF m 28 #[.val (.int x0), .val (.int x1), .val (.int x2), .val (.int x3), .val (.int x4), .val (.int kd), .val (.int j1), .val (.int c1), .unset, .unset, .unset, .unset, .unset, .unset, .unset] [(.int x3)])) (fun _ zk => XS.iloadN X0.here hx rfl (hb hby at_27) rfl zk) ?_
  refine Go.st (T' := s₁) (g' := (mkF m 30 #[.val (.int x0), .val (.int x1), .val (.int x2), .val (.int x3), .val (.int x4), .val (.int kd), .val (.int j1), .val (.int c1), .unset, .unset, .unset, .unset, .unset, .unset, .unset] [(.int (65535 : Int32)), (.int x3)])) (fun _ zk => X0.ldcI hx hown (mvT hZ (w0 hw)) rfl (hb hby at_28) zk) ?_
  refine Go.st (T' := s₁) (g' := (mkF m 31 #[.val (.int x0), .val (.int x1), .val (.int x2), .val (.int x3), .val (.int x4), .val (.int kd), .val (.int j1), .val (.int c1), .unset, .unset, .unset, .unset, .unset, .unset, .unset] [(.int (x3 &&& (65535 : Int32)))])) (fun _ zk => XS.iand X0.here hx rfl (hb hby at_30) rfl zk) ?_
  refine Go.st (T' := s₁) (g' := (mkF m 32 #[.val (.int x0), .val (.int x1), .val (.int x2), .val (.int x3), .val (.int x4), .val (.int kd), .val (.int j1), .val (.int c1), .unset, .unset, .unset, .unset, .unset, .unset, .unset] [(.int ((x3 &&& (65535 : Int32)).toUInt32.toUInt16.toUInt32.toInt32))])) (fun _ zk => XS.i2c X0.here hx rfl (hb hby at_31) rfl zk) ?_
  obtain ⟨c2, hc2⟩ : ∃ z, z = ((x3 &&& (65535 : Int32)).toUInt32.toUInt16.toUInt32.toInt32) := ⟨_, rfl⟩
  rw [← hc2]
  have qc2 := own_c16 (x3 &&& 65535)
  rw [← hc2] at qc2
  refine Go.st (T' := s₁) (g' := (mkF m 34 #[.val (.int x0), .val (.int x1), .val (.int x2), .val (.int x3), .val (.int x4), .val (.int kd), .val (.int j1), .val (.int c1), .val (.int c2), .unset, .unset, .unset, .unset, .unset, .unset] [])) (fun _ zk => XS.istore X0.here hx rfl (hb hby at_32) rfl (l' := #[.val (.int x0), .val (.int x1), .val (.int x2), .val (.int x3), .val (.int x4), .val (.int kd), .val (.int j1), .val (.int c1), .val (.int c2), .unset, .unset, .unset, .unset, .unset, .unset]) rfl zk) ?_
  refine Go.st (T' := s₁) (g' := (mkF m 36 #[.val (.int x0), .val (.int x1), .val (.int x2), .val (.int x3), .val (.int x4), .val (.int kd), .val (.int j1), .val (.int c1), .val (.int c2), .unset, .unset, .unset, .unset, .unset, .unset] [(.int x4)])) (fun _ zk => XS.iload X0.here hx rfl (hb hby at_34) rfl zk) ?_
  refine Go.st (T' := s₁) (g' := (mkF m 38 #[.val (.int x0), .val (.int x1), .val (.int x2), .val (.int x3), .val (.int x4), .val (.int kd), .val (.int j1), .val (.int c1), .val (.int c2), .unset, .unset, .unset, .unset, .unset, .unset] [(.int (65535 : Int32)), (.int x4)])) (fun _ zk => X0.ldcI hx hown (mvT hZ (w0 hw)) rfl (hb hby at_36) zk) ?_
  refine Go.st (T' := s₁) (g' := (mkF m 39 #[.val (.int x0), .val (.int x1), .val (.int x2), .val (.int x3), .val (.int x4), .val (.int kd), .val (.int j1), .val (.int c1), .val (.int c2), .unset, .unset, .unset, .unset, .unset, .unset] [(.int (x4 &&& (65535 : Int32)))])) (fun _ zk => XS.iand X0.here hx rfl (hb hby at_38) rfl zk) ?_
  refine Go.st (T' := s₁) (g' := (mkF m 40 #[.val (.int x0), .val (.int x1), .val (.int x2), .val (.int x3), .val (.int x4), .val (.int kd), .val (.int j1), .val (.int c1), .val (.int c2), .unset, .unset, .unset, .unset, .unset, .unset] [(.int ((x4 &&& (65535 : Int32)).toUInt32.toUInt16.toUInt32.toInt32))])) (fun _ zk => XS.i2c X0.here hx rfl (hb hby at_39) rfl zk) ?_
  obtain ⟨c3, hc3⟩ : ∃ z, z = ((x4 &&& (65535 : Int32)).toUInt32.toUInt16.toUInt32.toInt32) := ⟨_, rfl⟩
  rw [← hc3]
  have qc3 := own_c16 (x4 &&& 65535)
  rw [← hc3] at qc3
  refine Go.st (T' := s₁) (g' := (mkF m 42 #[.val (.int x0), .val (.int x1), .val (.int x2), .val (.int x3), .val (.int x4), .val (.int kd), .val (.int j1), .val (.int c1), .val (.int c2), .val (.int c3), .unset, .unset, .unset, .unset, .unset] [])) (fun _ zk => XS.istore X0.here hx rfl (hb hby at_40) rfl (l' := #[.val (.int x0), .val (.int x1), .val (.int x2), .val (.int x3), .val (.int x4), .val (.int kd), .val (.int j1), .val (.int c1), .val (.int c2), .val (.int c3), .unset, .unset, .unset, .unset, .unset]) rfl zk) ?_
  refine Go.st (T' := s₁) (g' := (mkF m 43 #[.val (.int x0), .val (.int x1), .val (.int x2), .val (.int x3), .val (.int x4), .val (.int kd), .val (.int j1), .val (.int c1), .val (.int c2), .val (.int c3), .unset, .unset, .unset, .unset, .unset] [(.int x1)])) (fun _ zk => XS.iloadN X0.here hx rfl (hb hby at_42) rfl zk) ?_
  refine Go.st (T' := s₁) (g' := (mkF m 45 #[.val (.int x0), .val (.int x1), .val (.int x2), .val (.int x3), .val (.int x4), .val (.int kd), .val (.int j1), .val (.int c1), .val (.int c2), .val (.int c3), .unset, .unset, .unset, .unset, .unset] [(.int (2147483647 : Int32)), (.int x1)])) (fun _ zk => X0.ldcI hx hown (mvT hZ (w1 hw)) rfl (hb hby at_43) zk) ?_
  refine Go.st (T' := s₁) (g' := (mkF m 46 #[.val (.int x0), .val (.int x1), .val (.int x2), .val (.int x3), .val (.int x4), .val (.int kd), .val (.int j1), .val (.int c1), .val (.int c2), .val (.int c3), .unset, .unset, .unset, .unset, .unset] [(.int (x1 &&& (2147483647 : Int32)))])) (fun _ zk => XS.iand X0.here hx rfl (hb hby at_45) rfl zk) ?_
  obtain ⟨pp, hpp⟩ : ∃ z, z = (x1 &&& (2147483647 : Int32)) := ⟨_, rfl⟩
  rw [← hpp]
  have qpp := own_pp x1
  rw [← hpp] at qpp
  refine Go.st (T' := s₁) (g' := (mkF m 48 #[.val (.int x0), .val (.int x1), .val (.int x2), .val (.int x3), .val (.int x4), .val (.int kd), .val (.int j1), .val (.int c1), .val (.int c2), .val (.int c3), .val (.int pp), .unset, .unset, .unset, .unset] [])) (fun _ zk => XS.istore X0.here hx rfl (hb hby at_46) rfl (l' := #[.val (.int x0), .val (.int x1), .val (.int x2), .val (.int x3), .val (.int x4), .val (.int kd), .val (.int j1), .val (.int c1), .val (.int c2), .val (.int c3), .val (.int pp), .unset, .unset, .unset, .unset]) rfl zk) ?_
  refine Go.st (T' := s₁) (g' := (mkF m 50 #[.val (.int x0), .val (.int x1), .val (.int x2), .val (.int x3), .val (.int x4), .val (.int kd), .val (.int j1), .val (.int c1), .val (.int c2), .val (.int c3), .val (.int pp), .unset, .unset, .unset, .unset] [(.int (10 : Int32))])) (fun _ zk => XS.bipush X0.here hx rfl (hb hby at_48) zk) ?_
  obtain ⟨T2, h2, k2, X2, e2, E2, A2, st2⟩ := newP (aty := .char) X0 hx hZ (w2 hw) e0 (g := (mkF m 50 #[.val (.int x0), .val (.int x1), .val (.int x2), .val (.int x3), .val (.int x4), .val (.int kd), .val (.int j1), .val (.int c1), .val (.int c2), .val (.int c3), .val (.int pp), .unset, .unset, .unset, .unset] [(.int (10 : Int32))])) rfl (hb hby at_50) rfl (by decide) (cap := 10) (by decide) (by decide) (by decide) (by decide)
  obtain ⟨b2, g2⟩ : ∃ z, z = h0.size := ⟨_, rfl⟩
  rw [← g2] at A2 st2
  have V2 : Arv Z h2 b2 k2 .char (10 : Int32) [(.int (0 : Int32)), (.int (0 : Int32)), (.int (0 : Int32)), (.int (0 : Int32)), (.int (0 : Int32)), (.int (0 : Int32)), (.int (0 : Int32)), (.int (0 : Int32)), (.int (0 : Int32)), (.int (0 : Int32))] (.int (0 : Int32)) := (Arv.new A2 (by decide)).pad (pad_rep [] (.int (0 : Int32)) 10)
  refine Go.st (T' := T2) (g' := (mkF m 52 #[.val (.int x0), .val (.int x1), .val (.int x2), .val (.int x3), .val (.int x4), .val (.int kd), .val (.int j1), .val (.int c1), .val (.int c2), .val (.int c3), .val (.int pp), .unset, .unset, .unset, .unset] [(.ref b2)])) (fun _ zk => st2 _ zk) ?_
  refine Go.st (T' := T2) (g' := (mkF m 54 #[.val (.int x0), .val (.int x1), .val (.int x2), .val (.int x3), .val (.int x4), .val (.int kd), .val (.int j1), .val (.int c1), .val (.int c2), .val (.int c3), .val (.int pp), .val (.ref b2), .unset, .unset, .unset] [])) (fun _ zk => XS.astore X2.here hx rfl (hb hby at_52) rfl rfl (l' := #[.val (.int x0), .val (.int x1), .val (.int x2), .val (.int x3), .val (.int x4), .val (.int kd), .val (.int j1), .val (.int c1), .val (.int c2), .val (.int c3), .val (.int pp), .val (.ref b2), .unset, .unset, .unset]) rfl zk) ?_
  have bg : h0.size ≤ b2 := (Nat.le_trans (Nat.le_refl _) (Nat.le_of_eq g2.symm))
  have tail : ∀ (T : State) (lc : List Loc) (hL : Heap) (cs : List Int32) (nn : Int32), Stand p l e room_1 s m #[(.int x0), (.int x1), (.int x2), (.int x3), (.int x4)] below meth c T lc (0 + 1) (0 + 10) → T.heap = hL → Fr n0 lc → Ext h0 hL → Arv Z hL b2 k2 .char (10 : Int32) (cs.map Value.int) (.int (0 : Int32)) → cs.length = 10 → (∀ c ∈ cs, 0 ≤ c.toInt ∧ c.toInt < 65536) → Go p.tables e below (FinS s Z EL0 h0 (fun v h L => v = some (.int 1) ∧ Fr n0 L) room_1.cells room_1.slots) T (mkF m 323 #[.val (.int x0), .val (.int x1), .val (.int x2), .val (.int x3), .val (.int x4), .val (.int kd), .val (.int j1), .val (.int c1), .val (.int c2), .val (.int c3), .val (.int pp), .val (.ref b2), .val (.int nn), .unset, .unset] []) := by
    intro T lc hL cs nn XL eL NL EL VL hcs hr
    refine Go.st (T' := T) (g' := (mkF m 325 #[.val (.int x0), .val (.int x1), .val (.int x2), .val (.int x3), .val (.int x4), .val (.int kd), .val (.int j1), .val (.int c1), .val (.int c2), .val (.int c3), .val (.int pp), .val (.ref b2), .val (.int nn), .unset, .unset] [(.ref b2)])) (fun _ zk => XS.aload XL.here hx rfl (hb hby at_323) rfl rfl zk) ?_
    refine Go.st (T' := T) (g' := (mkF m 327 #[.val (.int x0), .val (.int x1), .val (.int x2), .val (.int x3), .val (.int x4), .val (.int kd), .val (.int j1), .val (.int c1), .val (.int c2), .val (.int c3), .val (.int pp), .val (.ref b2), .val (.int nn), .unset, .unset] [(.int nn), (.ref b2)])) (fun _ zk => XS.iload XL.here hx rfl (hb hby at_325) rfl zk) ?_
    have xt4 : Ext h0 hL := EL
    have f5 := O0.ext xt4
    have cr6 := chrE hA xt4
    refine Go.callStS (y := (⟨"com/example/tierbook/tierbook/cli/FlagNamedPinLaw", "str", "([CI)Ljava/lang/String;"⟩ : MethodName)) XL hx hZ hown eL hEL cr6.1 hS (Nat.le_trans (Nat.zero_le _) EL.1) (w3 hw) (w4 hw) (w5 hw) (w6 hw) (by decide) (argsL := [(.ref b2), (.int nn)]) (rest := []) (W := 0) (rm_str l Z a0 hw [] b2 k2 cs nn zc hL n0 (Nat.le_trans Z0 EL.1) f5 VL hcs hr CS hz UA UH UL) all0 rfl (lenOf pd26 rfl) rfl (by rw [hml]; rfl) rfl (by show 2 * 0 + _ ≤ _; exact Nat.le_of_eq rfl) (by decide) (by decide) (by decide) (by decide) (hb hby at_327) ?_
    intro v3 T3 h3 L3 X3 e3 q3 hS hZ hown cr3
    obtain ⟨u, ds, hv3, Nf3, E3, ge3, hl10, hrd, SC⟩ := q3
    subst hv3
    have N3 := Fr.app NL Nf3
    obtain ⟨cd, xs, He, SB⟩ := SC
    have Eu := SB.exa
    have ca7 := cr6.trans cr3
    show Go p.tables e below _ T3 (mkF m 330 #[.val (.int x0), .val (.int x1), .val (.int x2), .val (.int x3), .val (.int x4), .val (.int kd), .val (.int j1), .val (.int c1), .val (.int c2), .val (.int c3), .val (.int pp), .val (.ref b2), .val (.int nn), .unset, .unset] [(.ref u)])
    have hn30 : ds.length < 2 ^ 30 := by omega
    refine Go.st (T' := T3) (g' := (mkF m 332 #[.val (.int x0), .val (.int x1), .val (.int x2), .val (.int x3), .val (.int x4), .val (.int kd), .val (.int j1), .val (.int c1), .val (.int c2), .val (.int c3), .val (.int pp), .val (.ref b2), .val (.int nn), .val (.ref u), .unset] [])) (fun _ zk => XS.astore X3.here hx rfl (hb hby at_330) rfl rfl (l' := #[.val (.int x0), .val (.int x1), .val (.int x2), .val (.int x3), .val (.int x4), .val (.int kd), .val (.int j1), .val (.int c1), .val (.int c2), .val (.int c3), .val (.int pp), .val (.ref b2), .val (.int nn), .val (.ref u), .unset]) rfl zk) ?_
    refine Go.st (T' := T3) (g' := (mkF m 334 #[.val (.int x0), .val (.int x1), .val (.int x2), .val (.int x3), .val (.int x4), .val (.int kd), .val (.int j1), .val (.int c1), .val (.int c2), .val (.int c3), .val (.int pp), .val (.ref b2), .val (.int nn), .val (.ref u), .unset] [(.ref u)])) (fun _ zk => XS.aload X3.here hx rfl (hb hby at_332) rfl rfl zk) ?_
    obtain ⟨l8, T8, h8, kk8, lt8, kl8, X8, e8, E8, hS, hk8, hZ', hown, A8, C8, F8, V8, la8, lb8, cr8, -, sf8, st8⟩ := ldcCH X3 hx hZ hown (w28 hw) hSt e3 hS (Nat.le_refl _) hEL (by decide) ca7.1 (vs := [(.int (45 : Int32)), (.int (45 : Int32)), (.int (104 : Int32)), (.int (101 : Int32)), (.int (108 : Int32)), (.int (112 : Int32))]) (z := (6 : Int32)) ⟨by decide, by decide⟩ (by decide) (by decide) (g := (mkF m 334 #[.val (.int x0), .val (.int x1), .val (.int x2), .val (.int x3), .val (.int x4), .val (.int kd), .val (.int j1), .val (.int c1), .val (.int c2), .val (.int c3), .val (.int pp), .val (.ref b2), .val (.int nn), .val (.ref u), .unset] [(.ref u)])) rfl (hb hby at_334) (n := 24) (by decide) (by decide) (by decide) (by decide)
    have hZ : Z.Warmed39 T8.vm := hZ'
    have ca9 := ca7.trans cr8
    refine Go.st (T' := T8) (g' := (mkF m 336 #[.val (.int x0), .val (.int x1), .val (.int x2), .val (.int x3), .val (.int x4), .val (.int kd), .val (.int j1), .val (.int c1), .val (.int c2), .val (.int c3), .val (.int pp), .val (.ref b2), .val (.int nn), .val (.ref u), .unset] [(.ref l8), (.ref u)])) (fun _ zk => st8 _ zk) ?_
    have SL10 : StrB Z h8 l8 0 [(45 : Int32), (45 : Int32), (104 : Int32), (101 : Int32), (108 : Int32), (112 : Int32)] := ⟨_, _, A8, C8, F8, V8⟩
    have xt11 : Ext h3 h8 := E8
    have f12 := SB.ext xt11
    have xt14 : Ext hL h8 := (E3.tr E8)
    have f15 := f5.ext xt14
    have f16 := Eu.ext xt11
    refine Go.callV (y := (⟨"java/lang/String", "equals", "(Ljava/lang/Object;)Z"⟩ : MethodName)) (z := (⟨"java/lang/String", "equals", "(Ljava/lang/Object;)Z"⟩ : MethodName)) (C := "java/lang/String") (a := u) X8 hx hZ hown e8 (w29 hw) (w30 hw) (w32 hw) (w31 hw) (w9 hw) (w33 hw) (notFace_of_selects (args := #[]) (mvT hZ (w32 hw))) (by decide) f16 (argsL := [(.ref l8)]) (rest := []) (W := 0) (rm_eqStr l Z a0 hw [] u l8 cd 0 zc xs [(45 : Int32), (45 : Int32), (104 : Int32), (101 : Int32), (108 : Int32), (112 : Int32)] h8 n0 (Nat.le_trans Z0 (Nat.le_trans (Nat.le_trans EL.1 E3.1) E8.1)) f15 f12 SL10 (He.len hn30) (by decide) CS hz) rfl (lenOf pd21 rfl) rfl (by rw [hml]; rfl) rfl (by show 2 * 0 + _ ≤ _; exact Nat.le_of_eq rfl) (by decide) (by decide) (by decide) (by decide) (hb hby at_336) ?_
    intro v13 T13 h13 L13 X13 e13 q13
    obtain ⟨r13, hv13, hr13, Nf13, hh13⟩ := q13
    subst hv13
    have E13 : T13.heap = h8 := e13.trans hh13
    have N13 := Fr.app N3 Nf13
    show Go p.tables e below _ T13 (mkF m 339 #[.val (.int x0), .val (.int x1), .val (.int x2), .val (.int x3), .val (.int x4), .val (.int kd), .val (.int j1), .val (.int c1), .val (.int c2), .val (.int c3), .val (.int pp), .val (.ref b2), .val (.int nn), .val (.ref u), .unset] [(.int r13)])
    by_cases hc339 : r13 = (0 : Int32)
    · refine Go.st (T' := T13) (g' := (mkF m 342 #[.val (.int x0), .val (.int x1), .val (.int x2), .val (.int x3), .val (.int x4), .val (.int kd), .val (.int j1), .val (.int c1), .val (.int c2), .val (.int c3), .val (.int pp), .val (.ref b2), .val (.int nn), .val (.ref u), .unset] [])) (fun _ zk => XS.ifNo X13.here hx rfl (hb hby at_339) rfl ((if0 _ _).trans (teq hc339).2) zk) ?_
      refine Go.st (T' := T13) (g' := (mkF m 344 #[.val (.int x0), .val (.int x1), .val (.int x2), .val (.int x3), .val (.int x4), .val (.int kd), .val (.int j1), .val (.int c1), .val (.int c2), .val (.int c3), .val (.int pp), .val (.ref b2), .val (.int nn), .val (.ref u), .unset] [(.ref u)])) (fun _ zk => XS.aload X13.here hx rfl (hb hby at_342) rfl rfl zk) ?_
      obtain ⟨l17, T17, h17, kk17, lt17, kl17, X17, e17, E17, hS, hk17, hZ', hown, A17, C17, F17, V17, la17, lb17, cr17, -, sf17, st17⟩ := ldcCH X13 hx hZ hown (w40 hw) hSt E13 hS hk8 hEL (by decide) ca9.1 (vs := [(.int (45 : Int32)), (.int (104 : Int32))]) (z := (2 : Int32)) ⟨by decide, by decide⟩ (by decide) (by decide) (g := (mkF m 344 #[.val (.int x0), .val (.int x1), .val (.int x2), .val (.int x3), .val (.int x4), .val (.int kd), .val (.int j1), .val (.int c1), .val (.int c2), .val (.int c3), .val (.int pp), .val (.ref b2), .val (.int nn), .val (.ref u), .unset] [(.ref u)])) rfl (hb hby at_344) (n := 8) (by decide) (by decide) (by decide) (by decide)
      have hZ : Z.Warmed39 T17.vm := hZ'
      have ca18 := ca9.trans cr17
      refine Go.st (T' := T17) (g' := (mkF m 346 #[.val (.int x0), .val (.int x1), .val (.int x2), .val (.int x3), .val (.int x4), .val (.int kd), .val (.int j1), .val (.int c1), .val (.int c2), .val (.int c3), .val (.int pp), .val (.ref b2), .val (.int nn), .val (.ref u), .unset] [(.ref l17), (.ref u)])) (fun _ zk => st17 _ zk) ?_
      have SL19 : StrB Z h17 l17 0 [(45 : Int32), (104 : Int32)] := ⟨_, _, A17, C17, F17, V17⟩
      have xt20 : Ext h8 h17 := E17
      have f21 := f12.ext xt20
      have f23 := f15.ext xt20
      have f24 := f16.ext xt20
      refine Go.callV (y := (⟨"java/lang/String", "equals", "(Ljava/lang/Object;)Z"⟩ : MethodName)) (z := (⟨"java/lang/String", "equals", "(Ljava/lang/Object;)Z"⟩ : MethodName)) (C := "java/lang/String") (a := u) X17 hx hZ hown e17 (w29 hw) (w30 hw) (w32 hw) (w31 hw) (w9 hw) (w33 hw) (notFace_of_selects (args := #[]) (mvT hZ (w32 hw))) (by decide) f24 (argsL := [(.ref l17)]) (rest := []) (W := 0) (rm_eqStr l Z a0 hw [] u l17 cd 0 zc xs [(45 : Int32), (104 : Int32)] h17 n0 (Nat.le_trans Z0 (Nat.le_trans (Nat.le_trans (Nat.le_trans EL.1 E3.1) E8.1) E17.1)) f23 f21 SL19 (He.len hn30) (by decide) CS hz) rfl (lenOf pd21 rfl) rfl (by rw [hml]; rfl) rfl (by show 2 * 0 + _ ≤ _; exact Nat.le_of_eq rfl) (by decide) (by decide) (by decide) (by decide) (hb hby at_346) ?_
      intro v22 T22 h22 L22 X22 e22 q22
      obtain ⟨r22, hv22, hr22, Nf22, hh22⟩ := q22
      subst hv22
      have E22 : T22.heap = h17 := e22.trans hh22
      have N22 := Fr.app N13 Nf22
      show Go p.tables e below _ T22 (mkF m 349 #[.val (.int x0), .val (.int x1), .val (.int x2), .val (.int x3), .val (.int x4), .val (.int kd), .val (.int j1), .val (.int c1), .val (.int c2), .val (.int c3), .val (.int pp), .val (.ref b2), .val (.int nn), .val (.ref u), .unset] [(.int r22)])
      by_cases hc349 : r22 = (0 : Int32)
      · refine Go.st (T' := T22) (g' := (mkF m 360 #[.val (.int x0), .val (.int x1), .val (.int x2), .val (.int x3), .val (.int x4), .val (.int kd), .val (.int j1), .val (.int c1), .val (.int c2), .val (.int c3), .val (.int pp), .val (.ref b2), .val (.int nn), .val (.ref u), .unset] [])) (fun _ zk => XS.ifYes X22.here hx rfl (pc0 := 349) (pc' := 360) rfl (hb hby at_349) rfl ((if0 _ _).trans (teq hc349).1) (by decide) (by decide) zk) ?_
        refine Go.st (T' := T22) (g' := (mkF m 362 #[.val (.int x0), .val (.int x1), .val (.int x2), .val (.int x3), .val (.int x4), .val (.int kd), .val (.int j1), .val (.int c1), .val (.int c2), .val (.int c3), .val (.int pp), .val (.ref b2), .val (.int nn), .val (.ref u), .unset] [(.ref u)])) (fun _ zk => XS.aload X22.here hx rfl (hb hby at_360) rfl rfl zk) ?_
        obtain ⟨l25, T25, h25, kk25, lt25, kl25, X25, e25, E25, hS, hk25, hZ', hown, A25, C25, F25, V25, la25, lb25, cr25, -, sf25, st25⟩ := ldcCH X22 hx hZ hown (w41 hw) hSt E22 hS hk17 hEL (by decide) ca18.1 (vs := [(.int (45 : Int32)), (.int (45 : Int32)), (.int (118 : Int32)), (.int (101 : Int32)), (.int (114 : Int32)), (.int (115 : Int32)), (.int (105 : Int32)), (.int (111 : Int32)), (.int (110 : Int32))]) (z := (9 : Int32)) ⟨by decide, by decide⟩ (by decide) (by decide) (g := (mkF m 362 #[.val (.int x0), .val (.int x1), .val (.int x2), .val (.int x3), .val (.int x4), .val (.int kd), .val (.int j1), .val (.int c1), .val (.int c2), .val (.int c3), .val (.int pp), .val (.ref b2), .val (.int nn), .val (.ref u), .unset] [(.ref u)])) rfl (hb hby at_362) (n := 36) (by decide) (by decide) (by decide) (by decide)
        have hZ : Z.Warmed39 T25.vm := hZ'
        have ca26 := ca18.trans cr25
        refine Go.st (T' := T25) (g' := (mkF m 364 #[.val (.int x0), .val (.int x1), .val (.int x2), .val (.int x3), .val (.int x4), .val (.int kd), .val (.int j1), .val (.int c1), .val (.int c2), .val (.int c3), .val (.int pp), .val (.ref b2), .val (.int nn), .val (.ref u), .unset] [(.ref l25), (.ref u)])) (fun _ zk => st25 _ zk) ?_
        have SL27 : StrB Z h25 l25 0 [(45 : Int32), (45 : Int32), (118 : Int32), (101 : Int32), (114 : Int32), (115 : Int32), (105 : Int32), (111 : Int32), (110 : Int32)] := ⟨_, _, A25, C25, F25, V25⟩
        have xt28 : Ext h17 h25 := E25
        have f29 := f21.ext xt28
        have f31 := f23.ext xt28
        have f32 := f24.ext xt28
        refine Go.callV (y := (⟨"java/lang/String", "equals", "(Ljava/lang/Object;)Z"⟩ : MethodName)) (z := (⟨"java/lang/String", "equals", "(Ljava/lang/Object;)Z"⟩ : MethodName)) (C := "java/lang/String") (a := u) X25 hx hZ hown e25 (w29 hw) (w30 hw) (w32 hw) (w31 hw) (w9 hw) (w33 hw) (notFace_of_selects (args := #[]) (mvT hZ (w32 hw))) (by decide) f32 (argsL := [(.ref l25)]) (rest := []) (W := 0) (rm_eqStr l Z a0 hw [] u l25 cd 0 zc xs [(45 : Int32), (45 : Int32), (118 : Int32), (101 : Int32), (114 : Int32), (115 : Int32), (105 : Int32), (111 : Int32), (110 : Int32)] h25 n0 (Nat.le_trans Z0 (Nat.le_trans (Nat.le_trans (Nat.le_trans (Nat.le_trans EL.1 E3.1) E8.1) E17.1) E25.1)) f31 f29 SL27 (He.len hn30) (by decide) CS hz) rfl (lenOf pd21 rfl) rfl (by rw [hml]; rfl) rfl (by show 2 * 0 + _ ≤ _; exact Nat.le_of_eq rfl) (by decide) (by decide) (by decide) (by decide) (hb hby at_364) ?_
        intro v30 T30 h30 L30 X30 e30 q30
        obtain ⟨r30, hv30, hr30, Nf30, hh30⟩ := q30
        subst hv30
        have E30 : T30.heap = h25 := e30.trans hh30
        have N30 := Fr.app N22 Nf30
        show Go p.tables e below _ T30 (mkF m 367 #[.val (.int x0), .val (.int x1), .val (.int x2), .val (.int x3), .val (.int x4), .val (.int kd), .val (.int j1), .val (.int c1), .val (.int c2), .val (.int c3), .val (.int pp), .val (.ref b2), .val (.int nn), .val (.ref u), .unset] [(.int r30)])
        by_cases hc367 : r30 = (0 : Int32)
        · refine Go.st (T' := T30) (g' := (mkF m 370 #[.val (.int x0), .val (.int x1), .val (.int x2), .val (.int x3), .val (.int x4), .val (.int kd), .val (.int j1), .val (.int c1), .val (.int c2), .val (.int c3), .val (.int pp), .val (.ref b2), .val (.int nn), .val (.ref u), .unset] [])) (fun _ zk => XS.ifNo X30.here hx rfl (hb hby at_367) rfl ((if0 _ _).trans (teq hc367).2) zk) ?_
          refine Go.st (T' := T30) (g' := (mkF m 372 #[.val (.int x0), .val (.int x1), .val (.int x2), .val (.int x3), .val (.int x4), .val (.int kd), .val (.int j1), .val (.int c1), .val (.int c2), .val (.int c3), .val (.int pp), .val (.ref b2), .val (.int nn), .val (.ref u), .unset] [(.ref u)])) (fun _ zk => XS.aload X30.here hx rfl (hb hby at_370) rfl rfl zk) ?_
          obtain ⟨l33, T33, h33, kk33, lt33, kl33, X33, e33, E33, hS, hk33, hZ', hown, A33, C33, F33, V33, la33, lb33, cr33, -, sf33, st33⟩ := ldcCH X30 hx hZ hown (w42 hw) hSt E30 hS hk25 hEL (by decide) ca26.1 (vs := [(.int (45 : Int32)), (.int (86 : Int32))]) (z := (2 : Int32)) ⟨by decide, by decide⟩ (by decide) (by decide) (g := (mkF m 372 #[.val (.int x0), .val (.int x1), .val (.int x2), .val (.int x3), .val (.int x4), .val (.int kd), .val (.int j1), .val (.int c1), .val (.int c2), .val (.int c3), .val (.int pp), .val (.ref b2), .val (.int nn), .val (.ref u), .unset] [(.ref u)])) rfl (hb hby at_372) (n := 8) (by decide) (by decide) (by decide) (by decide)
          have hZ : Z.Warmed39 T33.vm := hZ'
          have ca34 := ca26.trans cr33
          refine Go.st (T' := T33) (g' := (mkF m 374 #[.val (.int x0), .val (.int x1), .val (.int x2), .val (.int x3), .val (.int x4), .val (.int kd), .val (.int j1), .val (.int c1), .val (.int c2), .val (.int c3), .val (.int pp), .val (.ref b2), .val (.int nn), .val (.ref u), .unset] [(.ref l33), (.ref u)])) (fun _ zk => st33 _ zk) ?_
          have SL35 : StrB Z h33 l33 0 [(45 : Int32), (86 : Int32)] := ⟨_, _, A33, C33, F33, V33⟩
          have xt36 : Ext h25 h33 := E33
          have f37 := f29.ext xt36
          have f39 := f31.ext xt36
          have f40 := f32.ext xt36
          refine Go.callV (y := (⟨"java/lang/String", "equals", "(Ljava/lang/Object;)Z"⟩ : MethodName)) (z := (⟨"java/lang/String", "equals", "(Ljava/lang/Object;)Z"⟩ : MethodName)) (C := "java/lang/String") (a := u) X33 hx hZ hown e33 (w29 hw) (w30 hw) (w32 hw) (w31 hw) (w9 hw) (w33 hw) (notFace_of_selects (args := #[]) (mvT hZ (w32 hw))) (by decide) f40 (argsL := [(.ref l33)]) (rest := []) (W := 0) (rm_eqStr l Z a0 hw [] u l33 cd 0 zc xs [(45 : Int32), (86 : Int32)] h33 n0 (Nat.le_trans Z0 (Nat.le_trans (Nat.le_trans (Nat.le_trans (Nat.le_trans (Nat.le_trans EL.1 E3.1) E8.1) E17.1) E25.1) E33.1)) f39 f37 SL35 (He.len hn30) (by decide) CS hz) rfl (lenOf pd21 rfl) rfl (by rw [hml]; rfl) rfl (by show 2 * 0 + _ ≤ _; exact Nat.le_of_eq rfl) (by decide) (by decide) (by decide) (by decide) (hb hby at_374) ?_
          intro v38 T38 h38 L38 X38 e38 q38
          obtain ⟨r38, hv38, hr38, Nf38, hh38⟩ := q38
          subst hv38
          have E38 : T38.heap = h33 := e38.trans hh38
          have N38 := Fr.app N30 Nf38
          show Go p.tables e below _ T38 (mkF m 377 #[.val (.int x0), .val (.int x1), .val (.int x2), .val (.int x3), .val (.int x4), .val (.int kd), .val (.int j1), .val (.int c1), .val (.int c2), .val (.int c3), .val (.int pp), .val (.ref b2), .val (.int nn), .val (.ref u), .unset] [(.int r38)])
          by_cases hc377 : r38 = (0 : Int32)
          · refine Go.st (T' := T38) (g' := (mkF m 388 #[.val (.int x0), .val (.int x1), .val (.int x2), .val (.int x3), .val (.int x4), .val (.int kd), .val (.int j1), .val (.int c1), .val (.int c2), .val (.int c3), .val (.int pp), .val (.ref b2), .val (.int nn), .val (.ref u), .unset] [])) (fun _ zk => XS.ifYes X38.here hx rfl (pc0 := 377) (pc' := 388) rfl (hb hby at_377) rfl ((if0 _ _).trans (teq hc377).1) (by decide) (by decide) zk) ?_
            refine Go.st (T' := T38) (g' := (mkF m 389 #[.val (.int x0), .val (.int x1), .val (.int x2), .val (.int x3), .val (.int x4), .val (.int kd), .val (.int j1), .val (.int c1), .val (.int c2), .val (.int c3), .val (.int pp), .val (.ref b2), .val (.int nn), .val (.ref u), .unset] [.null])) (fun _ zk => XS.aconstNull X38.here hx rfl (hb hby at_388) zk) ?_
            refine Go.st (T' := T38) (g' := (mkF m 391 #[.val (.int x0), .val (.int x1), .val (.int x2), .val (.int x3), .val (.int x4), .val (.int kd), .val (.int j1), .val (.int c1), .val (.int c2), .val (.int c3), .val (.int pp), .val (.ref b2), .val (.int nn), .val (.ref u), .val .null] [])) (fun _ zk => XS.astore X38.here hx rfl (hb hby at_389) rfl rfl (l' := #[.val (.int x0), .val (.int x1), .val (.int x2), .val (.int x3), .val (.int x4), .val (.int kd), .val (.int j1), .val (.int c1), .val (.int c2), .val (.int c3), .val (.int pp), .val (.ref b2), .val (.int nn), .val (.ref u), .val .null]) rfl zk) ?_
            refine Go.st (T' := T38) (g' := (mkF m 393 #[.val (.int x0), .val (.int x1), .val (.int x2), .val (.int x3), .val (.int x4), .val (.int kd), .val (.int j1), .val (.int c1), .val (.int c2), .val (.int c3), .val (.int pp), .val (.ref b2), .val (.int nn), .val (.ref u), .val .null] [(.ref u)])) (fun _ zk => XS.aload X38.here hx rfl (hb hby at_391) rfl rfl zk) ?_
            refine Go.callSt (y := (⟨"com/example/tierbook/tierbook/cli/Flag", "named", "(Ljava/lang/String;)Lcom/example/tierbook/tierbook/cli/Flag;"⟩ : MethodName)) X38 hx hZ hown E38 (w43 hw) (w44 hw) (w45 hw) (w46 hw) (by decide) (argsL := [(.ref u)]) (rest := []) (W := 0) (rm_named l Z a0 hw [] u ds xs cd ds.length zc fm vA pA rA nH nV kV h33 n0 (Nat.le_trans Z0 (Nat.le_trans (Nat.le_trans (Nat.le_trans (Nat.le_trans (Nat.le_trans EL.1 E3.1) E8.1) E17.1) E25.1) E33.1)) f39 f37 He rfl hn30 hrd CS hz FM rf UA UH UL SV EV FV LH LV NH NV SHs SVs) rfl (lenOf pd27 rfl) rfl (by rw [hml]; rfl) rfl (by show 2 * 0 + _ ≤ _; exact Nat.le_of_eq rfl) (by decide) (by decide) (by decide) (by decide) (hb hby at_393) ?_
            intro v41 T41 h41 L41 X41 e41 q41
            obtain ⟨wv, hv41, hcase, Nf41, E41⟩ := q41
            have hwv : wv = .null := own_p3 hcase (fun z => z.elim (own_r0 hr13 hc339) (own_r0 hr22 hc349)) (fun z => z.elim (own_r0 hr30 hc367) (own_r0 hr38 hc377))
            subst hwv
            subst hv41
            have N41 := Fr.app N38 Nf41
            show Go p.tables e below _ T41 (mkF m 396 #[.val (.int x0), .val (.int x1), .val (.int x2), .val (.int x3), .val (.int x4), .val (.int kd), .val (.int j1), .val (.int c1), .val (.int c2), .val (.int c3), .val (.int pp), .val (.ref b2), .val (.int nn), .val (.ref u), .val .null] [.null])
            refine Go.st (T' := T41) (g' := (mkF m 398 #[.val (.int x0), .val (.int x1), .val (.int x2), .val (.int x3), .val (.int x4), .val (.int kd), .val (.int j1), .val (.int c1), .val (.int c2), .val (.int c3), .val (.int pp), .val (.ref b2), .val (.int nn), .val (.ref u), .val .null] [.null, .null])) (fun _ zk => XS.aload X41.here hx rfl (hb hby at_396) rfl rfl zk) ?_
            refine Go.st (T' := T41) (g' := (mkF m 401 #[.val (.int x0), .val (.int x1), .val (.int x2), .val (.int x3), .val (.int x4), .val (.int kd), .val (.int j1), .val (.int c1), .val (.int c2), .val (.int c3), .val (.int pp), .val (.ref b2), .val (.int nn), .val (.ref u), .val .null] [])) (fun _ zk => Jvm.RoadKit.acmp (g := (mkF m 398 #[.val (.int x0), .val (.int x1), .val (.int x2), .val (.int x3), .val (.int x4), .val (.int kd), .val (.int j1), .val (.int c1), .val (.int c2), .val (.int c3), .val (.int pp), .val (.ref b2), .val (.int nn), .val (.ref u), .val .null] [.null, .null])) X41 hx rfl rfl rfl (pc0 := 398) (pc' := 401) (same := true) rfl (hb hby at_398) rfl (decide_eq_true rfl) (by decide) (by decide) zk) ?_
            refine Go.st (T' := T41) (g' := (mkF m 402 #[.val (.int x0), .val (.int x1), .val (.int x2), .val (.int x3), .val (.int x4), .val (.int kd), .val (.int j1), .val (.int c1), .val (.int c2), .val (.int c3), .val (.int pp), .val (.ref b2), .val (.int nn), .val (.ref u), .val .null] [(.int (1 : Int32))])) (fun _ zk => XS.iconst X41.here hx rfl (hb hby at_401) zk) ?_
            refine Go.st (T' := T41) (g' := (mkF m 406 #[.val (.int x0), .val (.int x1), .val (.int x2), .val (.int x3), .val (.int x4), .val (.int kd), .val (.int j1), .val (.int c1), .val (.int c2), .val (.int c3), .val (.int pp), .val (.ref b2), .val (.int nn), .val (.ref u), .val .null] [(.int (1 : Int32))])) (fun _ zk => XS.goto X41.here hx rfl (pc0 := 402) (pc' := 406) rfl (hb hby at_402) (by decide) (by decide) zk) ?_
            have xt42 : Ext h33 h41 := E41
            have cr43 := chrE ca34 xt42
            refine Go.retNS X41 hx hlk hS (Nat.le_trans hk33 E41.1) cr43 hZ hEL hret rfl (by simp) (hb hby at_406) (by decide) (by decide) e41 ?_
            exact ⟨rfl, N41⟩
          · refine Go.st (T' := T38) (g' := (mkF m 380 #[.val (.int x0), .val (.int x1), .val (.int x2), .val (.int x3), .val (.int x4), .val (.int kd), .val (.int j1), .val (.int c1), .val (.int c2), .val (.int c3), .val (.int pp), .val (.ref b2), .val (.int nn), .val (.ref u), .unset] [])) (fun _ zk => XS.ifNo X38.here hx rfl (hb hby at_377) rfl ((if0 _ _).trans (feq hc377).1) zk) ?_
            obtain ⟨T44, X44, e44, st44⟩ := getS2 X38 hx hZ hown (host := "") (Or.inl (w90 hw)) Via.refl E38 (SR.ext f39.2) (g := (mkF m 380 #[.val (.int x0), .val (.int x1), .val (.int x2), .val (.int x3), .val (.int x4), .val (.int kd), .val (.int j1), .val (.int c1), .val (.int c2), .val (.int c3), .val (.int pp), .val (.ref b2), .val (.int nn), .val (.ref u), .unset] [])) rfl (hb hby at_380)
            refine Go.st (T' := T44) (g' := (mkF m 383 #[.val (.int x0), .val (.int x1), .val (.int x2), .val (.int x3), .val (.int x4), .val (.int kd), .val (.int j1), .val (.int c1), .val (.int c2), .val (.int c3), .val (.int pp), .val (.ref b2), .val (.int nn), .val (.ref u), .unset] [(.ref rA)])) (fun _ zk => st44 _ zk) ?_
            refine Go.st (T' := T44) (g' := (mkF m 385 #[.val (.int x0), .val (.int x1), .val (.int x2), .val (.int x3), .val (.int x4), .val (.int kd), .val (.int j1), .val (.int c1), .val (.int c2), .val (.int c3), .val (.int pp), .val (.ref b2), .val (.int nn), .val (.ref u), .val (.ref rA)] [])) (fun _ zk => XS.astore X44.here hx rfl (hb hby at_383) rfl rfl (l' := #[.val (.int x0), .val (.int x1), .val (.int x2), .val (.int x3), .val (.int x4), .val (.int kd), .val (.int j1), .val (.int c1), .val (.int c2), .val (.int c3), .val (.int pp), .val (.ref b2), .val (.int nn), .val (.ref u), .val (.ref rA)]) rfl zk) ?_
            refine Go.st (T' := T44) (g' := (mkF m 391 #[.val (.int x0), .val (.int x1), .val (.int x2), .val (.int x3), .val (.int x4), .val (.int kd), .val (.int j1), .val (.int c1), .val (.int c2), .val (.int c3), .val (.int pp), .val (.ref b2), .val (.int nn), .val (.ref u), .val (.ref rA)] [])) (fun _ zk => XS.goto X44.here hx rfl (pc0 := 385) (pc' := 391) rfl (hb hby at_385) (by decide) (by decide) zk) ?_
            refine Go.st (T' := T44) (g' := (mkF m 393 #[.val (.int x0), .val (.int x1), .val (.int x2), .val (.int x3), .val (.int x4), .val (.int kd), .val (.int j1), .val (.int c1), .val (.int c2), .val (.int c3), .val (.int pp), .val (.ref b2), .val (.int nn), .val (.ref u), .val (.ref rA)] [(.ref u)])) (fun _ zk => XS.aload X44.here hx rfl (hb hby at_391) rfl rfl zk) ?_
            refine Go.callSt (y := (⟨"com/example/tierbook/tierbook/cli/Flag", "named", "(Ljava/lang/String;)Lcom/example/tierbook/tierbook/cli/Flag;"⟩ : MethodName)) X44 hx hZ hown e44 (w43 hw) (w44 hw) (w45 hw) (w46 hw) (by decide) (argsL := [(.ref u)]) (rest := []) (W := 0) (rm_named l Z a0 hw [] u ds xs cd ds.length zc fm vA pA rA nH nV kV h33 n0 (Nat.le_trans Z0 (Nat.le_trans (Nat.le_trans (Nat.le_trans (Nat.le_trans (Nat.le_trans EL.1 E3.1) E8.1) E17.1) E25.1) E33.1)) f39 f37 He rfl hn30 hrd CS hz FM rf UA UH UL SV EV FV LH LV NH NV SHs SVs) rfl (lenOf pd27 rfl) rfl (by rw [hml]; rfl) rfl (by show 2 * 0 + _ ≤ _; exact Nat.le_of_eq rfl) (by decide) (by decide) (by decide) (by decide) (hb hby at_393) ?_
            intro v45 T45 h45 L45 X45 e45 q45
            obtain ⟨wv, hv45, hcase, Nf45, E45⟩ := q45
            have hwv : wv = (.ref rA) := own_p2 hcase (fun z => z.elim (own_r0 hr13 hc339) (own_r0 hr22 hc349)) (Or.inr (own_r hr38 hc377))
            subst hwv
            subst hv45
            have N45 := Fr.app N38 Nf45
            show Go p.tables e below _ T45 (mkF m 396 #[.val (.int x0), .val (.int x1), .val (.int x2), .val (.int x3), .val (.int x4), .val (.int kd), .val (.int j1), .val (.int c1), .val (.int c2), .val (.int c3), .val (.int pp), .val (.ref b2), .val (.int nn), .val (.ref u), .val (.ref rA)] [(.ref rA)])
            refine Go.st (T' := T45) (g' := (mkF m 398 #[.val (.int x0), .val (.int x1), .val (.int x2), .val (.int x3), .val (.int x4), .val (.int kd), .val (.int j1), .val (.int c1), .val (.int c2), .val (.int c3), .val (.int pp), .val (.ref b2), .val (.int nn), .val (.ref u), .val (.ref rA)] [(.ref rA), (.ref rA)])) (fun _ zk => XS.aload X45.here hx rfl (hb hby at_396) rfl rfl zk) ?_
            refine Go.st (T' := T45) (g' := (mkF m 401 #[.val (.int x0), .val (.int x1), .val (.int x2), .val (.int x3), .val (.int x4), .val (.int kd), .val (.int j1), .val (.int c1), .val (.int c2), .val (.int c3), .val (.int pp), .val (.ref b2), .val (.int nn), .val (.ref u), .val (.ref rA)] [])) (fun _ zk => Jvm.RoadKit.acmp (g := (mkF m 398 #[.val (.int x0), .val (.int x1), .val (.int x2), .val (.int x3), .val (.int x4), .val (.int kd), .val (.int j1), .val (.int c1), .val (.int c2), .val (.int c3), .val (.int pp), .val (.ref b2), .val (.int nn), .val (.ref u), .val (.ref rA)] [(.ref rA), (.ref rA)])) X45 hx rfl rfl rfl (pc0 := 398) (pc' := 401) (same := true) rfl (hb hby at_398) rfl (decide_eq_true rfl) (by decide) (by decide) zk) ?_
            refine Go.st (T' := T45) (g' := (mkF m 402 #[.val (.int x0), .val (.int x1), .val (.int x2), .val (.int x3), .val (.int x4), .val (.int kd), .val (.int j1), .val (.int c1), .val (.int c2), .val (.int c3), .val (.int pp), .val (.ref b2), .val (.int nn), .val (.ref u), .val (.ref rA)] [(.int (1 : Int32))])) (fun _ zk => XS.iconst X45.here hx rfl (hb hby at_401) zk) ?_
            refine Go.st (T' := T45) (g' := (mkF m 406 #[.val (.int x0), .val (.int x1), .val (.int x2), .val (.int x3), .val (.int x4), .val (.int kd), .val (.int j1), .val (.int c1), .val (.int c2), .val (.int c3), .val (.int pp), .val (.ref b2), .val (.int nn), .val (.ref u), .val (.ref rA)] [(.int (1 : Int32))])) (fun _ zk => XS.goto X45.here hx rfl (pc0 := 402) (pc' := 406) rfl (hb hby at_402) (by decide) (by decide) zk) ?_
            have xt46 : Ext h33 h45 := E45
            have cr47 := chrE ca34 xt46
            refine Go.retNS X45 hx hlk hS (Nat.le_trans hk33 E45.1) cr47 hZ hEL hret rfl (by simp) (hb hby at_406) (by decide) (by decide) e45 ?_
            exact ⟨rfl, N45⟩
        · refine Go.st (T' := T30) (g' := (mkF m 380 #[.val (.int x0), .val (.int x1), .val (.int x2), .val (.int x3), .val (.int x4), .val (.int kd), .val (.int j1), .val (.int c1), .val (.int c2), .val (.int c3), .val (.int pp), .val (.ref b2), .val (.int nn), .val (.ref u), .unset] [])) (fun _ zk => XS.ifYes X30.here hx rfl (pc0 := 367) (pc' := 380) rfl (hb hby at_367) rfl ((if0 _ _).trans (feq hc367).2) (by decide) (by decide) zk) ?_
          obtain ⟨T48, X48, e48, st48⟩ := getS2 X30 hx hZ hown (host := "") (Or.inl (w90 hw)) Via.refl E30 (SR.ext f31.2) (g := (mkF m 380 #[.val (.int x0), .val (.int x1), .val (.int x2), .val (.int x3), .val (.int x4), .val (.int kd), .val (.int j1), .val (.int c1), .val (.int c2), .val (.int c3), .val (.int pp), .val (.ref b2), .val (.int nn), .val (.ref u), .unset] [])) rfl (hb hby at_380)
          refine Go.st (T' := T48) (g' := (mkF m 383 #[.val (.int x0), .val (.int x1), .val (.int x2), .val (.int x3), .val (.int x4), .val (.int kd), .val (.int j1), .val (.int c1), .val (.int c2), .val (.int c3), .val (.int pp), .val (.ref b2), .val (.int nn), .val (.ref u), .unset] [(.ref rA)])) (fun _ zk => st48 _ zk) ?_
          refine Go.st (T' := T48) (g' := (mkF m 385 #[.val (.int x0), .val (.int x1), .val (.int x2), .val (.int x3), .val (.int x4), .val (.int kd), .val (.int j1), .val (.int c1), .val (.int c2), .val (.int c3), .val (.int pp), .val (.ref b2), .val (.int nn), .val (.ref u), .val (.ref rA)] [])) (fun _ zk => XS.astore X48.here hx rfl (hb hby at_383) rfl rfl (l' := #[.val (.int x0), .val (.int x1), .val (.int x2), .val (.int x3), .val (.int x4), .val (.int kd), .val (.int j1), .val (.int c1), .val (.int c2), .val (.int c3), .val (.int pp), .val (.ref b2), .val (.int nn), .val (.ref u), .val (.ref rA)]) rfl zk) ?_
          refine Go.st (T' := T48) (g' := (mkF m 391 #[.val (.int x0), .val (.int x1), .val (.int x2), .val (.int x3), .val (.int x4), .val (.int kd), .val (.int j1), .val (.int c1), .val (.int c2), .val (.int c3), .val (.int pp), .val (.ref b2), .val (.int nn), .val (.ref u), .val (.ref rA)] [])) (fun _ zk => XS.goto X48.here hx rfl (pc0 := 385) (pc' := 391) rfl (hb hby at_385) (by decide) (by decide) zk) ?_
          refine Go.st (T' := T48) (g' := (mkF m 393 #[.val (.int x0), .val (.int x1), .val (.int x2), .val (.int x3), .val (.int x4), .val (.int kd), .val (.int j1), .val (.int c1), .val (.int c2), .val (.int c3), .val (.int pp), .val (.ref b2), .val (.int nn), .val (.ref u), .val (.ref rA)] [(.ref u)])) (fun _ zk => XS.aload X48.here hx rfl (hb hby at_391) rfl rfl zk) ?_
          refine Go.callSt (y := (⟨"com/example/tierbook/tierbook/cli/Flag", "named", "(Ljava/lang/String;)Lcom/example/tierbook/tierbook/cli/Flag;"⟩ : MethodName)) X48 hx hZ hown e48 (w43 hw) (w44 hw) (w45 hw) (w46 hw) (by decide) (argsL := [(.ref u)]) (rest := []) (W := 0) (rm_named l Z a0 hw [] u ds xs cd ds.length zc fm vA pA rA nH nV kV h25 n0 (Nat.le_trans Z0 (Nat.le_trans (Nat.le_trans (Nat.le_trans (Nat.le_trans EL.1 E3.1) E8.1) E17.1) E25.1)) f31 f29 He rfl hn30 hrd CS hz FM rf UA UH UL SV EV FV LH LV NH NV SHs SVs) rfl (lenOf pd27 rfl) rfl (by rw [hml]; rfl) rfl (by show 2 * 0 + _ ≤ _; exact Nat.le_of_eq rfl) (by decide) (by decide) (by decide) (by decide) (hb hby at_393) ?_
          intro v49 T49 h49 L49 X49 e49 q49
          obtain ⟨wv, hv49, hcase, Nf49, E49⟩ := q49
          have hwv : wv = (.ref rA) := own_p2 hcase (fun z => z.elim (own_r0 hr13 hc339) (own_r0 hr22 hc349)) (Or.inl (own_r hr30 hc367))
          subst hwv
          subst hv49
          have N49 := Fr.app N30 Nf49
          show Go p.tables e below _ T49 (mkF m 396 #[.val (.int x0), .val (.int x1), .val (.int x2), .val (.int x3), .val (.int x4), .val (.int kd), .val (.int j1), .val (.int c1), .val (.int c2), .val (.int c3), .val (.int pp), .val (.ref b2), .val (.int nn), .val (.ref u), .val (.ref rA)] [(.ref rA)])
          refine Go.st (T' := T49) (g' := (mkF m 398 #[.val (.int x0), .val (.int x1), .val (.int x2), .val (.int x3), .val (.int x4), .val (.int kd), .val (.int j1), .val (.int c1), .val (.int c2), .val (.int c3), .val (.int pp), .val (.ref b2), .val (.int nn), .val (.ref u), .val (.ref rA)] [(.ref rA), (.ref rA)])) (fun _ zk => XS.aload X49.here hx rfl (hb hby at_396) rfl rfl zk) ?_
          refine Go.st (T' := T49) (g' := (mkF m 401 #[.val (.int x0), .val (.int x1), .val (.int x2), .val (.int x3), .val (.int x4), .val (.int kd), .val (.int j1), .val (.int c1), .val (.int c2), .val (.int c3), .val (.int pp), .val (.ref b2), .val (.int nn), .val (.ref u), .val (.ref rA)] [])) (fun _ zk => Jvm.RoadKit.acmp (g := (mkF m 398 #[.val (.int x0), .val (.int x1), .val (.int x2), .val (.int x3), .val (.int x4), .val (.int kd), .val (.int j1), .val (.int c1), .val (.int c2), .val (.int c3), .val (.int pp), .val (.ref b2), .val (.int nn), .val (.ref u), .val (.ref rA)] [(.ref rA), (.ref rA)])) X49 hx rfl rfl rfl (pc0 := 398) (pc' := 401) (same := true) rfl (hb hby at_398) rfl (decide_eq_true rfl) (by decide) (by decide) zk) ?_
          refine Go.st (T' := T49) (g' := (mkF m 402 #[.val (.int x0), .val (.int x1), .val (.int x2), .val (.int x3), .val (.int x4), .val (.int kd), .val (.int j1), .val (.int c1), .val (.int c2), .val (.int c3), .val (.int pp), .val (.ref b2), .val (.int nn), .val (.ref u), .val (.ref rA)] [(.int (1 : Int32))])) (fun _ zk => XS.iconst X49.here hx rfl (hb hby at_401) zk) ?_
          refine Go.st (T' := T49) (g' := (mkF m 406 #[.val (.int x0), .val (.int x1), .val (.int x2), .val (.int x3), .val (.int x4), .val (.int kd), .val (.int j1), .val (.int c1), .val (.int c2), .val (.int c3), .val (.int pp), .val (.ref b2), .val (.int nn), .val (.ref u), .val (.ref rA)] [(.int (1 : Int32))])) (fun _ zk => XS.goto X49.here hx rfl (pc0 := 402) (pc' := 406) rfl (hb hby at_402) (by decide) (by decide) zk) ?_
          have xt50 : Ext h25 h49 := E49
          have cr51 := chrE ca26 xt50
          refine Go.retNS X49 hx hlk hS (Nat.le_trans hk25 E49.1) cr51 hZ hEL hret rfl (by simp) (hb hby at_406) (by decide) (by decide) e49 ?_
          exact ⟨rfl, N49⟩
      · refine Go.st (T' := T22) (g' := (mkF m 352 #[.val (.int x0), .val (.int x1), .val (.int x2), .val (.int x3), .val (.int x4), .val (.int kd), .val (.int j1), .val (.int c1), .val (.int c2), .val (.int c3), .val (.int pp), .val (.ref b2), .val (.int nn), .val (.ref u), .unset] [])) (fun _ zk => XS.ifNo X22.here hx rfl (hb hby at_349) rfl ((if0 _ _).trans (feq hc349).1) zk) ?_
        obtain ⟨T52, X52, e52, st52⟩ := getS2 X22 hx hZ hown (host := "") (Or.inl (w144 hw)) Via.refl E22 (SH.ext f23.2) (g := (mkF m 352 #[.val (.int x0), .val (.int x1), .val (.int x2), .val (.int x3), .val (.int x4), .val (.int kd), .val (.int j1), .val (.int c1), .val (.int c2), .val (.int c3), .val (.int pp), .val (.ref b2), .val (.int nn), .val (.ref u), .unset] [])) rfl (hb hby at_352)
        refine Go.st (T' := T52) (g' := (mkF m 355 #[.val (.int x0), .val (.int x1), .val (.int x2), .val (.int x3), .val (.int x4), .val (.int kd), .val (.int j1), .val (.int c1), .val (.int c2), .val (.int c3), .val (.int pp), .val (.ref b2), .val (.int nn), .val (.ref u), .unset] [(.ref pA)])) (fun _ zk => st52 _ zk) ?_
        refine Go.st (T' := T52) (g' := (mkF m 357 #[.val (.int x0), .val (.int x1), .val (.int x2), .val (.int x3), .val (.int x4), .val (.int kd), .val (.int j1), .val (.int c1), .val (.int c2), .val (.int c3), .val (.int pp), .val (.ref b2), .val (.int nn), .val (.ref u), .val (.ref pA)] [])) (fun _ zk => XS.astore X52.here hx rfl (hb hby at_355) rfl rfl (l' := #[.val (.int x0), .val (.int x1), .val (.int x2), .val (.int x3), .val (.int x4), .val (.int kd), .val (.int j1), .val (.int c1), .val (.int c2), .val (.int c3), .val (.int pp), .val (.ref b2), .val (.int nn), .val (.ref u), .val (.ref pA)]) rfl zk) ?_
        refine Go.st (T' := T52) (g' := (mkF m 391 #[.val (.int x0), .val (.int x1), .val (.int x2), .val (.int x3), .val (.int x4), .val (.int kd), .val (.int j1), .val (.int c1), .val (.int c2), .val (.int c3), .val (.int pp), .val (.ref b2), .val (.int nn), .val (.ref u), .val (.ref pA)] [])) (fun _ zk => XS.goto X52.here hx rfl (pc0 := 357) (pc' := 391) rfl (hb hby at_357) (by decide) (by decide) zk) ?_
        refine Go.st (T' := T52) (g' := (mkF m 393 #[.val (.int x0), .val (.int x1), .val (.int x2), .val (.int x3), .val (.int x4), .val (.int kd), .val (.int j1), .val (.int c1), .val (.int c2), .val (.int c3), .val (.int pp), .val (.ref b2), .val (.int nn), .val (.ref u), .val (.ref pA)] [(.ref u)])) (fun _ zk => XS.aload X52.here hx rfl (hb hby at_391) rfl rfl zk) ?_
        refine Go.callSt (y := (⟨"com/example/tierbook/tierbook/cli/Flag", "named", "(Ljava/lang/String;)Lcom/example/tierbook/tierbook/cli/Flag;"⟩ : MethodName)) X52 hx hZ hown e52 (w43 hw) (w44 hw) (w45 hw) (w46 hw) (by decide) (argsL := [(.ref u)]) (rest := []) (W := 0) (rm_named l Z a0 hw [] u ds xs cd ds.length zc fm vA pA rA nH nV kV h17 n0 (Nat.le_trans Z0 (Nat.le_trans (Nat.le_trans (Nat.le_trans EL.1 E3.1) E8.1) E17.1)) f23 f21 He rfl hn30 hrd CS hz FM rf UA UH UL SV EV FV LH LV NH NV SHs SVs) rfl (lenOf pd27 rfl) rfl (by rw [hml]; rfl) rfl (by show 2 * 0 + _ ≤ _; exact Nat.le_of_eq rfl) (by decide) (by decide) (by decide) (by decide) (hb hby at_393) ?_
        intro v53 T53 h53 L53 X53 e53 q53
        obtain ⟨wv, hv53, hcase, Nf53, E53⟩ := q53
        have hwv : wv = (.ref pA) := own_p1 hcase (Or.inr (own_r hr22 hc349))
        subst hwv
        subst hv53
        have N53 := Fr.app N22 Nf53
        show Go p.tables e below _ T53 (mkF m 396 #[.val (.int x0), .val (.int x1), .val (.int x2), .val (.int x3), .val (.int x4), .val (.int kd), .val (.int j1), .val (.int c1), .val (.int c2), .val (.int c3), .val (.int pp), .val (.ref b2), .val (.int nn), .val (.ref u), .val (.ref pA)] [(.ref pA)])
        refine Go.st (T' := T53) (g' := (mkF m 398 #[.val (.int x0), .val (.int x1), .val (.int x2), .val (.int x3), .val (.int x4), .val (.int kd), .val (.int j1), .val (.int c1), .val (.int c2), .val (.int c3), .val (.int pp), .val (.ref b2), .val (.int nn), .val (.ref u), .val (.ref pA)] [(.ref pA), (.ref pA)])) (fun _ zk => XS.aload X53.here hx rfl (hb hby at_396) rfl rfl zk) ?_
        refine Go.st (T' := T53) (g' := (mkF m 401 #[.val (.int x0), .val (.int x1), .val (.int x2), .val (.int x3), .val (.int x4), .val (.int kd), .val (.int j1), .val (.int c1), .val (.int c2), .val (.int c3), .val (.int pp), .val (.ref b2), .val (.int nn), .val (.ref u), .val (.ref pA)] [])) (fun _ zk => Jvm.RoadKit.acmp (g := (mkF m 398 #[.val (.int x0), .val (.int x1), .val (.int x2), .val (.int x3), .val (.int x4), .val (.int kd), .val (.int j1), .val (.int c1), .val (.int c2), .val (.int c3), .val (.int pp), .val (.ref b2), .val (.int nn), .val (.ref u), .val (.ref pA)] [(.ref pA), (.ref pA)])) X53 hx rfl rfl rfl (pc0 := 398) (pc' := 401) (same := true) rfl (hb hby at_398) rfl (decide_eq_true rfl) (by decide) (by decide) zk) ?_
        refine Go.st (T' := T53) (g' := (mkF m 402 #[.val (.int x0), .val (.int x1), .val (.int x2), .val (.int x3), .val (.int x4), .val (.int kd), .val (.int j1), .val (.int c1), .val (.int c2), .val (.int c3), .val (.int pp), .val (.ref b2), .val (.int nn), .val (.ref u), .val (.ref pA)] [(.int (1 : Int32))])) (fun _ zk => XS.iconst X53.here hx rfl (hb hby at_401) zk) ?_
        refine Go.st (T' := T53) (g' := (mkF m 406 #[.val (.int x0), .val (.int x1), .val (.int x2), .val (.int x3), .val (.int x4), .val (.int kd), .val (.int j1), .val (.int c1), .val (.int c2), .val (.int c3), .val (.int pp), .val (.ref b2), .val (.int nn), .val (.ref u), .val (.ref pA)] [(.int (1 : Int32))])) (fun _ zk => XS.goto X53.here hx rfl (pc0 := 402) (pc' := 406) rfl (hb hby at_402) (by decide) (by decide) zk) ?_
        have xt54 : Ext h17 h53 := E53
        have cr55 := chrE ca18 xt54
        refine Go.retNS X53 hx hlk hS (Nat.le_trans hk17 E53.1) cr55 hZ hEL hret rfl (by simp) (hb hby at_406) (by decide) (by decide) e53 ?_
        exact ⟨rfl, N53⟩
    · refine Go.st (T' := T13) (g' := (mkF m 352 #[.val (.int x0), .val (.int x1), .val (.int x2), .val (.int x3), .val (.int x4), .val (.int kd), .val (.int j1), .val (.int c1), .val (.int c2), .val (.int c3), .val (.int pp), .val (.ref b2), .val (.int nn), .val (.ref u), .unset] [])) (fun _ zk => XS.ifYes X13.here hx rfl (pc0 := 339) (pc' := 352) rfl (hb hby at_339) rfl ((if0 _ _).trans (feq hc339).2) (by decide) (by decide) zk) ?_
      obtain ⟨T56, X56, e56, st56⟩ := getS2 X13 hx hZ hown (host := "") (Or.inl (w144 hw)) Via.refl E13 (SH.ext f15.2) (g := (mkF m 352 #[.val (.int x0), .val (.int x1), .val (.int x2), .val (.int x3), .val (.int x4), .val (.int kd), .val (.int j1), .val (.int c1), .val (.int c2), .val (.int c3), .val (.int pp), .val (.ref b2), .val (.int nn), .val (.ref u), .unset] [])) rfl (hb hby at_352)
      refine Go.st (T' := T56) (g' := (mkF m 355 #[.val (.int x0), .val (.int x1), .val (.int x2), .val (.int x3), .val (.int x4), .val (.int kd), .val (.int j1), .val (.int c1), .val (.int c2), .val (.int c3), .val (.int pp), .val (.ref b2), .val (.int nn), .val (.ref u), .unset] [(.ref pA)])) (fun _ zk => st56 _ zk) ?_
      refine Go.st (T' := T56) (g' := (mkF m 357 #[.val (.int x0), .val (.int x1), .val (.int x2), .val (.int x3), .val (.int x4), .val (.int kd), .val (.int j1), .val (.int c1), .val (.int c2), .val (.int c3), .val (.int pp), .val (.ref b2), .val (.int nn), .val (.ref u), .val (.ref pA)] [])) (fun _ zk => XS.astore X56.here hx rfl (hb hby at_355) rfl rfl (l' := #[.val (.int x0), .val (.int x1), .val (.int x2), .val (.int x3), .val (.int x4), .val (.int kd), .val (.int j1), .val (.int c1), .val (.int c2), .val (.int c3), .val (.int pp), .val (.ref b2), .val (.int nn), .val (.ref u), .val (.ref pA)]) rfl zk) ?_
      refine Go.st (T' := T56) (g' := (mkF m 391 #[.val (.int x0), .val (.int x1), .val (.int x2), .val (.int x3), .val (.int x4), .val (.int kd), .val (.int j1), .val (.int c1), .val (.int c2), .val (.int c3), .val (.int pp), .val (.ref b2), .val (.int nn), .val (.ref u), .val (.ref pA)] [])) (fun _ zk => XS.goto X56.here hx rfl (pc0 := 357) (pc' := 391) rfl (hb hby at_357) (by decide) (by decide) zk) ?_
      refine Go.st (T' := T56) (g' := (mkF m 393 #[.val (.int x0), .val (.int x1), .val (.int x2), .val (.int x3), .val (.int x4), .val (.int kd), .val (.int j1), .val (.int c1), .val (.int c2), .val (.int c3), .val (.int pp), .val (.ref b2), .val (.int nn), .val (.ref u), .val (.ref pA)] [(.ref u)])) (fun _ zk => XS.aload X56.here hx rfl (hb hby at_391) rfl rfl zk) ?_
      refine Go.callSt (y := (⟨"com/example/tierbook/tierbook/cli/Flag", "named", "(Ljava/lang/String;)Lcom/example/tierbook/tierbook/cli/Flag;"⟩ : MethodName)) X56 hx hZ hown e56 (w43 hw) (w44 hw) (w45 hw) (w46 hw) (by decide) (argsL := [(.ref u)]) (rest := []) (W := 0) (rm_named l Z a0 hw [] u ds xs cd ds.length zc fm vA pA rA nH nV kV h8 n0 (Nat.le_trans Z0 (Nat.le_trans (Nat.le_trans EL.1 E3.1) E8.1)) f15 f12 He rfl hn30 hrd CS hz FM rf UA UH UL SV EV FV LH LV NH NV SHs SVs) rfl (lenOf pd27 rfl) rfl (by rw [hml]; rfl) rfl (by show 2 * 0 + _ ≤ _; exact Nat.le_of_eq rfl) (by decide) (by decide) (by decide) (by decide) (hb hby at_393) ?_
      intro v57 T57 h57 L57 X57 e57 q57
      obtain ⟨wv, hv57, hcase, Nf57, E57⟩ := q57
      have hwv : wv = (.ref pA) := own_p1 hcase (Or.inl (own_r hr13 hc339))
      subst hwv
      subst hv57
      have N57 := Fr.app N13 Nf57
      show Go p.tables e below _ T57 (mkF m 396 #[.val (.int x0), .val (.int x1), .val (.int x2), .val (.int x3), .val (.int x4), .val (.int kd), .val (.int j1), .val (.int c1), .val (.int c2), .val (.int c3), .val (.int pp), .val (.ref b2), .val (.int nn), .val (.ref u), .val (.ref pA)] [(.ref pA)])
      refine Go.st (T' := T57) (g' := (mkF m 398 #[.val (.int x0), .val (.int x1), .val (.int x2), .val (.int x3), .val (.int x4), .val (.int kd), .val (.int j1), .val (.int c1), .val (.int c2), .val (.int c3), .val (.int pp), .val (.ref b2), .val (.int nn), .val (.ref u), .val (.ref pA)] [(.ref pA), (.ref pA)])) (fun _ zk => XS.aload X57.here hx rfl (hb hby at_396) rfl rfl zk) ?_
      refine Go.st (T' := T57) (g' := (mkF m 401 #[.val (.int x0), .val (.int x1), .val (.int x2), .val (.int x3), .val (.int x4), .val (.int kd), .val (.int j1), .val (.int c1), .val (.int c2), .val (.int c3), .val (.int pp), .val (.ref b2), .val (.int nn), .val (.ref u), .val (.ref pA)] [])) (fun _ zk => Jvm.RoadKit.acmp (g := (mkF m 398 #[.val (.int x0), .val (.int x1), .val (.int x2), .val (.int x3), .val (.int x4), .val (.int kd), .val (.int j1), .val (.int c1), .val (.int c2), .val (.int c3), .val (.int pp), .val (.ref b2), .val (.int nn), .val (.ref u), .val (.ref pA)] [(.ref pA), (.ref pA)])) X57 hx rfl rfl rfl (pc0 := 398) (pc' := 401) (same := true) rfl (hb hby at_398) rfl (decide_eq_true rfl) (by decide) (by decide) zk) ?_
      refine Go.st (T' := T57) (g' := (mkF m 402 #[.val (.int x0), .val (.int x1), .val (.int x2), .val (.int x3), .val (.int x4), .val (.int kd), .val (.int j1), .val (.int c1), .val (.int c2), .val (.int c3), .val (.int pp), .val (.ref b2), .val (.int nn), .val (.ref u), .val (.ref pA)] [(.int (1 : Int32))])) (fun _ zk => XS.iconst X57.here hx rfl (hb hby at_401) zk) ?_
      refine Go.st (T' := T57) (g' := (mkF m 406 #[.val (.int x0), .val (.int x1), .val (.int x2), .val (.int x3), .val (.int x4), .val (.int kd), .val (.int j1), .val (.int c1), .val (.int c2), .val (.int c3), .val (.int pp), .val (.ref b2), .val (.int nn), .val (.ref u), .val (.ref pA)] [(.int (1 : Int32))])) (fun _ zk => XS.goto X57.here hx rfl (pc0 := 402) (pc' := 406) rfl (hb hby at_402) (by decide) (by decide) zk) ?_
      have xt58 : Ext h8 h57 := E57
      have cr59 := chrE ca9 xt58
      refine Go.retNS X57 hx hlk hS (Nat.le_trans hk8 E57.1) cr59 hZ hEL hret rfl (by simp) (hb hby at_406) (by decide) (by decide) e57 ?_
      exact ⟨rfl, N57⟩
  refine Go.st (T' := T2) (g' := (mkF m 56 #[.val (.int x0), .val (.int x1), .val (.int x2), .val (.int x3), .val (.int x4), .val (.int kd), .val (.int j1), .val (.int c1), .val (.int c2), .val (.int c3), .val (.int pp), .val (.ref b2), .unset, .unset, .unset] [(.int kd)])) (fun _ zk => XS.iload X2.here hx rfl (hb hby at_54) rfl zk) ?_
  by_cases hc56 : kd = (0 : Int32)
  · refine Go.st (T' := T2) (g' := (mkF m 59 #[.val (.int x0), .val (.int x1), .val (.int x2), .val (.int x3), .val (.int x4), .val (.int kd), .val (.int j1), .val (.int c1), .val (.int c2), .val (.int c3), .val (.int pp), .val (.ref b2), .unset, .unset, .unset] [])) (fun _ zk => XS.ifNo X2.here hx rfl (hb hby at_56) rfl ((if0 _ _).trans (teq hc56).2) zk) ?_
    refine Go.st (T' := T2) (g' := (mkF m 60 #[.val (.int x0), .val (.int x1), .val (.int x2), .val (.int x3), .val (.int x4), .val (.int kd), .val (.int j1), .val (.int c1), .val (.int c2), .val (.int c3), .val (.int pp), .val (.ref b2), .unset, .unset, .unset] [(.int x0)])) (fun _ zk => XS.iloadN X2.here hx rfl (hb hby at_59) rfl zk) ?_
    refine Go.st (T' := T2) (g' := (mkF m 61 #[.val (.int x0), .val (.int x1), .val (.int x2), .val (.int x3), .val (.int x4), .val (.int kd), .val (.int j1), .val (.int c1), .val (.int c2), .val (.int c3), .val (.int pp), .val (.ref b2), .unset, .unset, .unset] [(.int (4 : Int32)), (.int x0)])) (fun _ zk => XS.iconst X2.here hx rfl (hb hby at_60) zk) ?_
    refine Go.st (T' := T2) (g' := (mkF m 62 #[.val (.int x0), .val (.int x1), .val (.int x2), .val (.int x3), .val (.int x4), .val (.int kd), .val (.int j1), .val (.int c1), .val (.int c2), .val (.int c3), .val (.int pp), .val (.ref b2), .unset, .unset, .unset] [(.int ((x0.toUInt32 >>> ((4 : Int32) &&& 31).toUInt32).toInt32))])) (fun _ zk => XS.iushr X2.here hx rfl (hb hby at_61) rfl zk) ?_
    refine Go.st (T' := T2) (g' := (mkF m 63 #[.val (.int x0), .val (.int x1), .val (.int x2), .val (.int x3), .val (.int x4), .val (.int kd), .val (.int j1), .val (.int c1), .val (.int c2), .val (.int c3), .val (.int pp), .val (.ref b2), .unset, .unset, .unset] [(.int (3 : Int32)), (.int ((x0.toUInt32 >>> ((4 : Int32) &&& 31).toUInt32).toInt32))])) (fun _ zk => XS.iconst X2.here hx rfl (hb hby at_62) zk) ?_
    refine Go.st (T' := T2) (g' := (mkF m 64 #[.val (.int x0), .val (.int x1), .val (.int x2), .val (.int x3), .val (.int x4), .val (.int kd), .val (.int j1), .val (.int c1), .val (.int c2), .val (.int c3), .val (.int pp), .val (.ref b2), .unset, .unset, .unset] [(.int (((x0.toUInt32 >>> ((4 : Int32) &&& 31).toUInt32).toInt32) &&& (3 : Int32)))])) (fun _ zk => XS.iand X2.here hx rfl (hb hby at_63) rfl zk) ?_
    refine Go.st (T' := T2) (g' := (mkF m 66 #[.val (.int x0), .val (.int x1), .val (.int x2), .val (.int x3), .val (.int x4), .val (.int kd), .val (.int j1), .val (.int c1), .val (.int c2), .val (.int c3), .val (.int pp), .val (.ref b2), .val (.int (((x0.toUInt32 >>> ((4 : Int32) &&& 31).toUInt32).toInt32) &&& (3 : Int32))), .unset, .unset] [])) (fun _ zk => XS.istore X2.here hx rfl (hb hby at_64) rfl (l' := #[.val (.int x0), .val (.int x1), .val (.int x2), .val (.int x3), .val (.int x4), .val (.int kd), .val (.int j1), .val (.int c1), .val (.int c2), .val (.int c3), .val (.int pp), .val (.ref b2), .val (.int (((x0.toUInt32 >>> ((4 : Int32) &&& 31).toUInt32).toInt32) &&& (3 : Int32))), .unset, .unset]) rfl zk) ?_
    refine Go.st (T' := T2) (g' := (mkF m 68 #[.val (.int x0), .val (.int x1), .val (.int x2), .val (.int x3), .val (.int x4), .val (.int kd), .val (.int j1), .val (.int c1), .val (.int c2), .val (.int c3), .val (.int pp), .val (.ref b2), .val (.int (((x0.toUInt32 >>> ((4 : Int32) &&& 31).toUInt32).toInt32) &&& (3 : Int32))), .unset, .unset] [(.ref b2)])) (fun _ zk => XS.aload X2.here hx rfl (hb hby at_66) rfl rfl zk) ?_
    refine Go.st (T' := T2) (g' := (mkF m 69 #[.val (.int x0), .val (.int x1), .val (.int x2), .val (.int x3), .val (.int x4), .val (.int kd), .val (.int j1), .val (.int c1), .val (.int c2), .val (.int c3), .val (.int pp), .val (.ref b2), .val (.int (((x0.toUInt32 >>> ((4 : Int32) &&& 31).toUInt32).toInt32) &&& (3 : Int32))), .unset, .unset] [(.int (0 : Int32)), (.ref b2)])) (fun _ zk => XS.iconst X2.here hx rfl (hb hby at_68) zk) ?_
    refine Go.st (T' := T2) (g' := (mkF m 71 #[.val (.int x0), .val (.int x1), .val (.int x2), .val (.int x3), .val (.int x4), .val (.int kd), .val (.int j1), .val (.int c1), .val (.int c2), .val (.int c3), .val (.int pp), .val (.ref b2), .val (.int (((x0.toUInt32 >>> ((4 : Int32) &&& 31).toUInt32).toInt32) &&& (3 : Int32))), .unset, .unset] [(.int c1), (.int (0 : Int32)), (.ref b2)])) (fun _ zk => XS.iload X2.here hx rfl (hb hby at_69) rfl zk) ?_
    obtain ⟨T60, h60, X60, e60, W60, V60, st60⟩ := stCV X2 hx hZ e2 V2 (j := (0 : Int32)) (i := 0) (by decide) rfl (Nat.le_of_ble_eq_true rfl) (g := (mkF m 71 #[.val (.int x0), .val (.int x1), .val (.int x2), .val (.int x3), .val (.int x4), .val (.int kd), .val (.int j1), .val (.int c1), .val (.int c2), .val (.int c3), .val (.int pp), .val (.ref b2), .val (.int (((x0.toUInt32 >>> ((4 : Int32) &&& 31).toUInt32).toInt32) &&& (3 : Int32))), .unset, .unset] [(.int c1), (.int (0 : Int32)), (.ref b2)])) rfl rfl (hb hby at_71)
    rw [nar_cid (x := c1) qc1] at V60
    have V60' : Arv Z h60 b2 k2 .char (10 : Int32) [(.int c1), (.int (0 : Int32)), (.int (0 : Int32)), (.int (0 : Int32)), (.int (0 : Int32)), (.int (0 : Int32)), (.int (0 : Int32)), (.int (0 : Int32)), (.int (0 : Int32)), (.int (0 : Int32))] (.int (0 : Int32)) := V60
    have N60 := Fr.snoc X60 N0 (Nat.le_trans Z0 (Nat.le_trans (Nat.le_refl _) (Nat.le_of_eq g2.symm)))
    refine Go.st (T' := T60) (g' := (mkF m 72 #[.val (.int x0), .val (.int x1), .val (.int x2), .val (.int x3), .val (.int x4), .val (.int kd), .val (.int j1), .val (.int c1), .val (.int c2), .val (.int c3), .val (.int pp), .val (.ref b2), .val (.int (((x0.toUInt32 >>> ((4 : Int32) &&& 31).toUInt32).toInt32) &&& (3 : Int32))), .unset, .unset] [])) (fun _ zk => st60 _ zk) ?_
    refine Go.st (T' := T60) (g' := (mkF m 74 #[.val (.int x0), .val (.int x1), .val (.int x2), .val (.int x3), .val (.int x4), .val (.int kd), .val (.int j1), .val (.int c1), .val (.int c2), .val (.int c3), .val (.int pp), .val (.ref b2), .val (.int (((x0.toUInt32 >>> ((4 : Int32) &&& 31).toUInt32).toInt32) &&& (3 : Int32))), .unset, .unset] [(.ref b2)])) (fun _ zk => XS.aload X60.here hx rfl (hb hby at_72) rfl rfl zk) ?_
    refine Go.st (T' := T60) (g' := (mkF m 75 #[.val (.int x0), .val (.int x1), .val (.int x2), .val (.int x3), .val (.int x4), .val (.int kd), .val (.int j1), .val (.int c1), .val (.int c2), .val (.int c3), .val (.int pp), .val (.ref b2), .val (.int (((x0.toUInt32 >>> ((4 : Int32) &&& 31).toUInt32).toInt32) &&& (3 : Int32))), .unset, .unset] [(.int (1 : Int32)), (.ref b2)])) (fun _ zk => XS.iconst X60.here hx rfl (hb hby at_74) zk) ?_
    refine Go.st (T' := T60) (g' := (mkF m 77 #[.val (.int x0), .val (.int x1), .val (.int x2), .val (.int x3), .val (.int x4), .val (.int kd), .val (.int j1), .val (.int c1), .val (.int c2), .val (.int c3), .val (.int pp), .val (.ref b2), .val (.int (((x0.toUInt32 >>> ((4 : Int32) &&& 31).toUInt32).toInt32) &&& (3 : Int32))), .unset, .unset] [(.int c2), (.int (1 : Int32)), (.ref b2)])) (fun _ zk => XS.iload X60.here hx rfl (hb hby at_75) rfl zk) ?_
    obtain ⟨T61, h61, X61, e61, W61, V61, st61⟩ := stCV X60 hx hZ e60 V60' (j := (1 : Int32)) (i := 1) (by decide) rfl (Nat.le_of_ble_eq_true rfl) (g := (mkF m 77 #[.val (.int x0), .val (.int x1), .val (.int x2), .val (.int x3), .val (.int x4), .val (.int kd), .val (.int j1), .val (.int c1), .val (.int c2), .val (.int c3), .val (.int pp), .val (.ref b2), .val (.int (((x0.toUInt32 >>> ((4 : Int32) &&& 31).toUInt32).toInt32) &&& (3 : Int32))), .unset, .unset] [(.int c2), (.int (1 : Int32)), (.ref b2)])) rfl rfl (hb hby at_77)
    rw [nar_cid (x := c2) qc2] at V61
    have V61' : Arv Z h61 b2 k2 .char (10 : Int32) [(.int c1), (.int c2), (.int (0 : Int32)), (.int (0 : Int32)), (.int (0 : Int32)), (.int (0 : Int32)), (.int (0 : Int32)), (.int (0 : Int32)), (.int (0 : Int32)), (.int (0 : Int32))] (.int (0 : Int32)) := V61
    have N61 := Fr.snoc X61 N60 (Nat.le_trans Z0 (Nat.le_trans (Nat.le_refl _) (Nat.le_of_eq g2.symm)))
    refine Go.st (T' := T61) (g' := (mkF m 78 #[.val (.int x0), .val (.int x1), .val (.int x2), .val (.int x3), .val (.int x4), .val (.int kd), .val (.int j1), .val (.int c1), .val (.int c2), .val (.int c3), .val (.int pp), .val (.ref b2), .val (.int (((x0.toUInt32 >>> ((4 : Int32) &&& 31).toUInt32).toInt32) &&& (3 : Int32))), .unset, .unset] [])) (fun _ zk => st61 _ zk) ?_
    refine Go.st (T' := T61) (g' := (mkF m 80 #[.val (.int x0), .val (.int x1), .val (.int x2), .val (.int x3), .val (.int x4), .val (.int kd), .val (.int j1), .val (.int c1), .val (.int c2), .val (.int c3), .val (.int pp), .val (.ref b2), .val (.int (((x0.toUInt32 >>> ((4 : Int32) &&& 31).toUInt32).toInt32) &&& (3 : Int32))), .unset, .unset] [(.ref b2)])) (fun _ zk => XS.aload X61.here hx rfl (hb hby at_78) rfl rfl zk) ?_
    refine Go.st (T' := T61) (g' := (mkF m 81 #[.val (.int x0), .val (.int x1), .val (.int x2), .val (.int x3), .val (.int x4), .val (.int kd), .val (.int j1), .val (.int c1), .val (.int c2), .val (.int c3), .val (.int pp), .val (.ref b2), .val (.int (((x0.toUInt32 >>> ((4 : Int32) &&& 31).toUInt32).toInt32) &&& (3 : Int32))), .unset, .unset] [(.int (2 : Int32)), (.ref b2)])) (fun _ zk => XS.iconst X61.here hx rfl (hb hby at_80) zk) ?_
    refine Go.st (T' := T61) (g' := (mkF m 83 #[.val (.int x0), .val (.int x1), .val (.int x2), .val (.int x3), .val (.int x4), .val (.int kd), .val (.int j1), .val (.int c1), .val (.int c2), .val (.int c3), .val (.int pp), .val (.ref b2), .val (.int (((x0.toUInt32 >>> ((4 : Int32) &&& 31).toUInt32).toInt32) &&& (3 : Int32))), .unset, .unset] [(.int c3), (.int (2 : Int32)), (.ref b2)])) (fun _ zk => XS.iload X61.here hx rfl (hb hby at_81) rfl zk) ?_
    obtain ⟨T62, h62, X62, e62, W62, V62, st62⟩ := stCV X61 hx hZ e61 V61' (j := (2 : Int32)) (i := 2) (by decide) rfl (Nat.le_of_ble_eq_true rfl) (g := (mkF m 83 #[.val (.int x0), .val (.int x1), .val (.int x2), .val (.int x3), .val (.int x4), .val (.int kd), .val (.int j1), .val (.int c1), .val (.int c2), .val (.int c3), .val (.int pp), .val (.ref b2), .val (.int (((x0.toUInt32 >>> ((4 : Int32) &&& 31).toUInt32).toInt32) &&& (3 : Int32))), .unset, .unset] [(.int c3), (.int (2 : Int32)), (.ref b2)])) rfl rfl (hb hby at_83)
    rw [nar_cid (x := c3) qc3] at V62
    have V62' : Arv Z h62 b2 k2 .char (10 : Int32) [(.int c1), (.int c2), (.int c3), (.int (0 : Int32)), (.int (0 : Int32)), (.int (0 : Int32)), (.int (0 : Int32)), (.int (0 : Int32)), (.int (0 : Int32)), (.int (0 : Int32))] (.int (0 : Int32)) := V62
    have N62 := Fr.snoc X62 N61 (Nat.le_trans Z0 (Nat.le_trans (Nat.le_refl _) (Nat.le_of_eq g2.symm)))
    refine Go.st (T' := T62) (g' := (mkF m 84 #[.val (.int x0), .val (.int x1), .val (.int x2), .val (.int x3), .val (.int x4), .val (.int kd), .val (.int j1), .val (.int c1), .val (.int c2), .val (.int c3), .val (.int pp), .val (.ref b2), .val (.int (((x0.toUInt32 >>> ((4 : Int32) &&& 31).toUInt32).toInt32) &&& (3 : Int32))), .unset, .unset] [])) (fun _ zk => st62 _ zk) ?_
    refine Go.st (T' := T62) (g' := (mkF m 323 #[.val (.int x0), .val (.int x1), .val (.int x2), .val (.int x3), .val (.int x4), .val (.int kd), .val (.int j1), .val (.int c1), .val (.int c2), .val (.int c3), .val (.int pp), .val (.ref b2), .val (.int (((x0.toUInt32 >>> ((4 : Int32) &&& 31).toUInt32).toInt32) &&& (3 : Int32))), .unset, .unset] [])) (fun _ zk => XS.goto X62.here hx rfl (pc0 := 84) (pc' := 323) rfl (hb hby at_84) (by decide) (by decide) zk) ?_
    have hrl : ∀ c ∈ ([c1, c2, c3, (0 : Int32), (0 : Int32), (0 : Int32), (0 : Int32), (0 : Int32), (0 : Int32), (0 : Int32)] : List Int32), 0 ≤ c.toInt ∧ c.toInt < 65536 := by
      simp only [List.forall_mem_cons]
      exact ⟨qc1, qc2, qc3, (by decide), (by decide), (by decide), (by decide), (by decide), (by decide), (by decide), fun _ q => nomatch q⟩
    have xt63 : Ext h0 h62 := (((E2.thenW W60 (Nat.le_of_eq g2.symm)).thenW W61 (Nat.le_of_eq g2.symm)).thenW W62 (Nat.le_of_eq g2.symm))
    exact tail _ _ _ ([c1, c2, c3, (0 : Int32), (0 : Int32), (0 : Int32), (0 : Int32), (0 : Int32), (0 : Int32), (0 : Int32)]) _ X62 e62 N62 xt63 V62' rfl hrl
  · refine Go.st (T' := T2) (g' := (mkF m 87 #[.val (.int x0), .val (.int x1), .val (.int x2), .val (.int x3), .val (.int x4), .val (.int kd), .val (.int j1), .val (.int c1), .val (.int c2), .val (.int c3), .val (.int pp), .val (.ref b2), .unset, .unset, .unset] [])) (fun _ zk => XS.ifYes X2.here hx rfl (pc0 := 56) (pc' := 87) rfl (hb hby at_56) rfl ((if0 _ _).trans (feq hc56).2) (by decide) (by decide) zk) ?_
    refine Go.st (T' := T2) (g' := (mkF m 89 #[.val (.int x0), .val (.int x1), .val (.int x2), .val (.int x3), .val (.int x4), .val (.int kd), .val (.int j1), .val (.int c1), .val (.int c2), .val (.int c3), .val (.int pp), .val (.ref b2), .unset, .unset, .unset] [(.int kd)])) (fun _ zk => XS.iload X2.here hx rfl (hb hby at_87) rfl zk) ?_
    refine Go.st (T' := T2) (g' := (mkF m 90 #[.val (.int x0), .val (.int x1), .val (.int x2), .val (.int x3), .val (.int x4), .val (.int kd), .val (.int j1), .val (.int c1), .val (.int c2), .val (.int c3), .val (.int pp), .val (.ref b2), .unset, .unset, .unset] [(.int (1 : Int32)), (.int kd)])) (fun _ zk => XS.iconst X2.here hx rfl (hb hby at_89) zk) ?_
    by_cases hc90 : kd = (1 : Int32)
    · refine Go.st (T' := T2) (g' := (mkF m 93 #[.val (.int x0), .val (.int x1), .val (.int x2), .val (.int x3), .val (.int x4), .val (.int kd), .val (.int j1), .val (.int c1), .val (.int c2), .val (.int c3), .val (.int pp), .val (.ref b2), .unset, .unset, .unset] [])) (fun _ zk => XS.icmpNo X2.here hx rfl (hb hby at_90) rfl (teq hc90).2 zk) ?_
      refine Go.st (T' := T2) (g' := (mkF m 94 #[.val (.int x0), .val (.int x1), .val (.int x2), .val (.int x3), .val (.int x4), .val (.int kd), .val (.int j1), .val (.int c1), .val (.int c2), .val (.int c3), .val (.int pp), .val (.ref b2), .unset, .unset, .unset] [(.int (2 : Int32))])) (fun _ zk => XS.iconst X2.here hx rfl (hb hby at_93) zk) ?_
      refine Go.st (T' := T2) (g' := (mkF m 96 #[.val (.int x0), .val (.int x1), .val (.int x2), .val (.int x3), .val (.int x4), .val (.int kd), .val (.int j1), .val (.int c1), .val (.int c2), .val (.int c3), .val (.int pp), .val (.ref b2), .val (.int (2 : Int32)), .unset, .unset] [])) (fun _ zk => XS.istore X2.here hx rfl (hb hby at_94) rfl (l' := #[.val (.int x0), .val (.int x1), .val (.int x2), .val (.int x3), .val (.int x4), .val (.int kd), .val (.int j1), .val (.int c1), .val (.int c2), .val (.int c3), .val (.int pp), .val (.ref b2), .val (.int (2 : Int32)), .unset, .unset]) rfl zk) ?_
      refine Go.st (T' := T2) (g' := (mkF m 98 #[.val (.int x0), .val (.int x1), .val (.int x2), .val (.int x3), .val (.int x4), .val (.int kd), .val (.int j1), .val (.int c1), .val (.int c2), .val (.int c3), .val (.int pp), .val (.ref b2), .val (.int (2 : Int32)), .unset, .unset] [(.ref b2)])) (fun _ zk => XS.aload X2.here hx rfl (hb hby at_96) rfl rfl zk) ?_
      refine Go.st (T' := T2) (g' := (mkF m 99 #[.val (.int x0), .val (.int x1), .val (.int x2), .val (.int x3), .val (.int x4), .val (.int kd), .val (.int j1), .val (.int c1), .val (.int c2), .val (.int c3), .val (.int pp), .val (.ref b2), .val (.int (2 : Int32)), .unset, .unset] [(.int (0 : Int32)), (.ref b2)])) (fun _ zk => XS.iconst X2.here hx rfl (hb hby at_98) zk) ?_
      refine Go.st (T' := T2) (g' := (mkF m 101 #[.val (.int x0), .val (.int x1), .val (.int x2), .val (.int x3), .val (.int x4), .val (.int kd), .val (.int j1), .val (.int c1), .val (.int c2), .val (.int c3), .val (.int pp), .val (.ref b2), .val (.int (2 : Int32)), .unset, .unset] [(.int (45 : Int32)), (.int (0 : Int32)), (.ref b2)])) (fun _ zk => XS.bipush X2.here hx rfl (hb hby at_99) zk) ?_
      obtain ⟨T64, h64, X64, e64, W64, V64, st64⟩ := stCV X2 hx hZ e2 V2 (j := (0 : Int32)) (i := 0) (by decide) rfl (Nat.le_of_ble_eq_true rfl) (g := (mkF m 101 #[.val (.int x0), .val (.int x1), .val (.int x2), .val (.int x3), .val (.int x4), .val (.int kd), .val (.int j1), .val (.int c1), .val (.int c2), .val (.int c3), .val (.int pp), .val (.ref b2), .val (.int (2 : Int32)), .unset, .unset] [(.int (45 : Int32)), (.int (0 : Int32)), (.ref b2)])) rfl rfl (hb hby at_101)
      rw [show nar .char (45 : Int32) = (45 : Int32) from by decide] at V64
      have V64' : Arv Z h64 b2 k2 .char (10 : Int32) [(.int (45 : Int32)), (.int (0 : Int32)), (.int (0 : Int32)), (.int (0 : Int32)), (.int (0 : Int32)), (.int (0 : Int32)), (.int (0 : Int32)), (.int (0 : Int32)), (.int (0 : Int32)), (.int (0 : Int32))] (.int (0 : Int32)) := V64
      have N64 := Fr.snoc X64 N0 (Nat.le_trans Z0 (Nat.le_trans (Nat.le_refl _) (Nat.le_of_eq g2.symm)))
      refine Go.st (T' := T64) (g' := (mkF m 102 #[.val (.int x0), .val (.int x1), .val (.int x2), .val (.int x3), .val (.int x4), .val (.int kd), .val (.int j1), .val (.int c1), .val (.int c2), .val (.int c3), .val (.int pp), .val (.ref b2), .val (.int (2 : Int32)), .unset, .unset] [])) (fun _ zk => st64 _ zk) ?_
      refine Go.st (T' := T64) (g' := (mkF m 104 #[.val (.int x0), .val (.int x1), .val (.int x2), .val (.int x3), .val (.int x4), .val (.int kd), .val (.int j1), .val (.int c1), .val (.int c2), .val (.int c3), .val (.int pp), .val (.ref b2), .val (.int (2 : Int32)), .unset, .unset] [(.ref b2)])) (fun _ zk => XS.aload X64.here hx rfl (hb hby at_102) rfl rfl zk) ?_
      refine Go.st (T' := T64) (g' := (mkF m 105 #[.val (.int x0), .val (.int x1), .val (.int x2), .val (.int x3), .val (.int x4), .val (.int kd), .val (.int j1), .val (.int c1), .val (.int c2), .val (.int c3), .val (.int pp), .val (.ref b2), .val (.int (2 : Int32)), .unset, .unset] [(.int (1 : Int32)), (.ref b2)])) (fun _ zk => XS.iconst X64.here hx rfl (hb hby at_104) zk) ?_
      refine Go.st (T' := T64) (g' := (mkF m 107 #[.val (.int x0), .val (.int x1), .val (.int x2), .val (.int x3), .val (.int x4), .val (.int kd), .val (.int j1), .val (.int c1), .val (.int c2), .val (.int c3), .val (.int pp), .val (.ref b2), .val (.int (2 : Int32)), .unset, .unset] [(.int c1), (.int (1 : Int32)), (.ref b2)])) (fun _ zk => XS.iload X64.here hx rfl (hb hby at_105) rfl zk) ?_
      obtain ⟨T65, h65, X65, e65, W65, V65, st65⟩ := stCV X64 hx hZ e64 V64' (j := (1 : Int32)) (i := 1) (by decide) rfl (Nat.le_of_ble_eq_true rfl) (g := (mkF m 107 #[.val (.int x0), .val (.int x1), .val (.int x2), .val (.int x3), .val (.int x4), .val (.int kd), .val (.int j1), .val (.int c1), .val (.int c2), .val (.int c3), .val (.int pp), .val (.ref b2), .val (.int (2 : Int32)), .unset, .unset] [(.int c1), (.int (1 : Int32)), (.ref b2)])) rfl rfl (hb hby at_107)
      rw [nar_cid (x := c1) qc1] at V65
      have V65' : Arv Z h65 b2 k2 .char (10 : Int32) [(.int (45 : Int32)), (.int c1), (.int (0 : Int32)), (.int (0 : Int32)), (.int (0 : Int32)), (.int (0 : Int32)), (.int (0 : Int32)), (.int (0 : Int32)), (.int (0 : Int32)), (.int (0 : Int32))] (.int (0 : Int32)) := V65
      have N65 := Fr.snoc X65 N64 (Nat.le_trans Z0 (Nat.le_trans (Nat.le_refl _) (Nat.le_of_eq g2.symm)))
      refine Go.st (T' := T65) (g' := (mkF m 108 #[.val (.int x0), .val (.int x1), .val (.int x2), .val (.int x3), .val (.int x4), .val (.int kd), .val (.int j1), .val (.int c1), .val (.int c2), .val (.int c3), .val (.int pp), .val (.ref b2), .val (.int (2 : Int32)), .unset, .unset] [])) (fun _ zk => st65 _ zk) ?_
      refine Go.st (T' := T65) (g' := (mkF m 323 #[.val (.int x0), .val (.int x1), .val (.int x2), .val (.int x3), .val (.int x4), .val (.int kd), .val (.int j1), .val (.int c1), .val (.int c2), .val (.int c3), .val (.int pp), .val (.ref b2), .val (.int (2 : Int32)), .unset, .unset] [])) (fun _ zk => XS.goto X65.here hx rfl (pc0 := 108) (pc' := 323) rfl (hb hby at_108) (by decide) (by decide) zk) ?_
      have hrl : ∀ c ∈ ([(45 : Int32), c1, (0 : Int32), (0 : Int32), (0 : Int32), (0 : Int32), (0 : Int32), (0 : Int32), (0 : Int32), (0 : Int32)] : List Int32), 0 ≤ c.toInt ∧ c.toInt < 65536 := by
        simp only [List.forall_mem_cons]
        exact ⟨(by decide), qc1, (by decide), (by decide), (by decide), (by decide), (by decide), (by decide), (by decide), (by decide), fun _ q => nomatch q⟩
      have xt66 : Ext h0 h65 := ((E2.thenW W64 (Nat.le_of_eq g2.symm)).thenW W65 (Nat.le_of_eq g2.symm))
      exact tail _ _ _ ([(45 : Int32), c1, (0 : Int32), (0 : Int32), (0 : Int32), (0 : Int32), (0 : Int32), (0 : Int32), (0 : Int32), (0 : Int32)]) _ X65 e65 N65 xt66 V65' rfl hrl
    · refine Go.st (T' := T2) (g' := (mkF m 111 #[.val (.int x0), .val (.int x1), .val (.int x2), .val (.int x3), .val (.int x4), .val (.int kd), .val (.int j1), .val (.int c1), .val (.int c2), .val (.int c3), .val (.int pp), .val (.ref b2), .unset, .unset, .unset] [])) (fun _ zk => XS.icmpYes X2.here hx rfl (pc0 := 90) (pc' := 111) rfl (hb hby at_90) rfl (feq hc90).2 (by decide) (by decide) zk) ?_
      refine Go.st (T' := T2) (g' := (mkF m 113 #[.val (.int x0), .val (.int x1), .val (.int x2), .val (.int x3), .val (.int x4), .val (.int kd), .val (.int j1), .val (.int c1), .val (.int c2), .val (.int c3), .val (.int pp), .val (.ref b2), .unset, .unset, .unset] [(.int kd)])) (fun _ zk => XS.iload X2.here hx rfl (hb hby at_111) rfl zk) ?_
      refine Go.st (T' := T2) (g' := (mkF m 114 #[.val (.int x0), .val (.int x1), .val (.int x2), .val (.int x3), .val (.int x4), .val (.int kd), .val (.int j1), .val (.int c1), .val (.int c2), .val (.int c3), .val (.int pp), .val (.ref b2), .unset, .unset, .unset] [(.int (2 : Int32)), (.int kd)])) (fun _ zk => XS.iconst X2.here hx rfl (hb hby at_113) zk) ?_
      by_cases hc114 : kd = (2 : Int32)
      · refine Go.st (T' := T2) (g' := (mkF m 117 #[.val (.int x0), .val (.int x1), .val (.int x2), .val (.int x3), .val (.int x4), .val (.int kd), .val (.int j1), .val (.int c1), .val (.int c2), .val (.int c3), .val (.int pp), .val (.ref b2), .unset, .unset, .unset] [])) (fun _ zk => XS.icmpNo X2.here hx rfl (hb hby at_114) rfl (teq hc114).2 zk) ?_
        refine Go.st (T' := T2) (g' := (mkF m 119 #[.val (.int x0), .val (.int x1), .val (.int x2), .val (.int x3), .val (.int x4), .val (.int kd), .val (.int j1), .val (.int c1), .val (.int c2), .val (.int c3), .val (.int pp), .val (.ref b2), .unset, .unset, .unset] [(.int (6 : Int32))])) (fun _ zk => XS.bipush X2.here hx rfl (hb hby at_117) zk) ?_
        refine Go.st (T' := T2) (g' := (mkF m 121 #[.val (.int x0), .val (.int x1), .val (.int x2), .val (.int x3), .val (.int x4), .val (.int kd), .val (.int j1), .val (.int c1), .val (.int c2), .val (.int c3), .val (.int pp), .val (.ref b2), .val (.int (6 : Int32)), .unset, .unset] [])) (fun _ zk => XS.istore X2.here hx rfl (hb hby at_119) rfl (l' := #[.val (.int x0), .val (.int x1), .val (.int x2), .val (.int x3), .val (.int x4), .val (.int kd), .val (.int j1), .val (.int c1), .val (.int c2), .val (.int c3), .val (.int pp), .val (.ref b2), .val (.int (6 : Int32)), .unset, .unset]) rfl zk) ?_
        refine Go.st (T' := T2) (g' := (mkF m 123 #[.val (.int x0), .val (.int x1), .val (.int x2), .val (.int x3), .val (.int x4), .val (.int kd), .val (.int j1), .val (.int c1), .val (.int c2), .val (.int c3), .val (.int pp), .val (.ref b2), .val (.int (6 : Int32)), .unset, .unset] [(.ref b2)])) (fun _ zk => XS.aload X2.here hx rfl (hb hby at_121) rfl rfl zk) ?_
        refine Go.callSt (y := (⟨"com/example/tierbook/tierbook/cli/FlagNamedPinLaw", "help", "([C)V"⟩ : MethodName)) X2 hx hZ hown e2 (w141 hw) (w142 hw) (w5 hw) (w143 hw) (by decide) (argsL := [(.ref b2)]) (rest := []) (W := 0) (rm_help l Z a0 hw [] b2 k2 h2 n0 (Nat.le_trans Z0 E2.1) V2 (Nat.le_trans Z0 (Nat.le_trans (Nat.le_refl _) (Nat.le_of_eq g2.symm)))) rfl (lenOf pd25 rfl) rfl (by rw [hml]; rfl) rfl (by show 2 * 0 + _ ≤ _; exact Nat.le_of_eq rfl) (by decide) (by decide) (by decide) (by decide) (hb hby at_123) ?_
        intro v67 T67 h67 L67 X67 e67 q67
        obtain ⟨hv67, Nf67, K67, V67⟩ := q67
        subst hv67
        have N67 := Fr.app N0 Nf67
        show Go p.tables e below _ T67 (mkF m 126 #[.val (.int x0), .val (.int x1), .val (.int x2), .val (.int x3), .val (.int x4), .val (.int kd), .val (.int j1), .val (.int c1), .val (.int c2), .val (.int c3), .val (.int pp), .val (.ref b2), .val (.int (6 : Int32)), .unset, .unset] [])
        refine Go.st (T' := T67) (g' := (mkF m 128 #[.val (.int x0), .val (.int x1), .val (.int x2), .val (.int x3), .val (.int x4), .val (.int kd), .val (.int j1), .val (.int c1), .val (.int c2), .val (.int c3), .val (.int pp), .val (.ref b2), .val (.int (6 : Int32)), .unset, .unset] [(.int j1)])) (fun _ zk => XS.iload X67.here hx rfl (hb hby at_126) rfl zk) ?_
        by_cases hc128 : j1 = (0 : Int32)
        · refine Go.st (T' := T67) (g' := (mkF m 323 #[.val (.int x0), .val (.int x1), .val (.int x2), .val (.int x3), .val (.int x4), .val (.int kd), .val (.int j1), .val (.int c1), .val (.int c2), .val (.int c3), .val (.int pp), .val (.ref b2), .val (.int (6 : Int32)), .unset, .unset] [])) (fun _ zk => XS.ifYes X67.here hx rfl (pc0 := 128) (pc' := 323) rfl (hb hby at_128) rfl ((if0 _ _).trans (teq hc128).1) (by decide) (by decide) zk) ?_
          have hrl : ∀ c ∈ ([(45 : Int32), (45 : Int32), (104 : Int32), (101 : Int32), (108 : Int32), (112 : Int32), (0 : Int32), (0 : Int32), (0 : Int32), (0 : Int32)] : List Int32), 0 ≤ c.toInt ∧ c.toInt < 65536 := by
            simp only [List.forall_mem_cons]
            exact ⟨(by decide), (by decide), (by decide), (by decide), (by decide), (by decide), (by decide), (by decide), (by decide), (by decide), fun _ q => nomatch q⟩
          have xt68 : Ext h0 h67 := (E2.thenK K67 (allS (P := fun x => h0.size ≤ x) (Nat.le_of_eq g2.symm) all0))
          exact tail _ _ _ ([(45 : Int32), (45 : Int32), (104 : Int32), (101 : Int32), (108 : Int32), (112 : Int32), (0 : Int32), (0 : Int32), (0 : Int32), (0 : Int32)]) _ X67 e67 N67 xt68 V67 rfl hrl
        · refine Go.st (T' := T67) (g' := (mkF m 131 #[.val (.int x0), .val (.int x1), .val (.int x2), .val (.int x3), .val (.int x4), .val (.int kd), .val (.int j1), .val (.int c1), .val (.int c2), .val (.int c3), .val (.int pp), .val (.ref b2), .val (.int (6 : Int32)), .unset, .unset] [])) (fun _ zk => XS.ifNo X67.here hx rfl (hb hby at_128) rfl ((if0 _ _).trans (feq hc128).1) zk) ?_
          refine Go.st (T' := T67) (g' := (mkF m 133 #[.val (.int x0), .val (.int x1), .val (.int x2), .val (.int x3), .val (.int x4), .val (.int kd), .val (.int j1), .val (.int c1), .val (.int c2), .val (.int c3), .val (.int pp), .val (.ref b2), .val (.int (6 : Int32)), .unset, .unset] [(.ref b2)])) (fun _ zk => XS.aload X67.here hx rfl (hb hby at_131) rfl rfl zk) ?_
          refine Go.st (T' := T67) (g' := (mkF m 135 #[.val (.int x0), .val (.int x1), .val (.int x2), .val (.int x3), .val (.int x4), .val (.int kd), .val (.int j1), .val (.int c1), .val (.int c2), .val (.int c3), .val (.int pp), .val (.ref b2), .val (.int (6 : Int32)), .unset, .unset] [(.int pp), (.ref b2)])) (fun _ zk => XS.iload X67.here hx rfl (hb hby at_133) rfl zk) ?_
          refine Go.st (T' := T67) (g' := (mkF m 137 #[.val (.int x0), .val (.int x1), .val (.int x2), .val (.int x3), .val (.int x4), .val (.int kd), .val (.int j1), .val (.int c1), .val (.int c2), .val (.int c3), .val (.int pp), .val (.ref b2), .val (.int (6 : Int32)), .unset, .unset] [(.int (6 : Int32)), (.int pp), (.ref b2)])) (fun _ zk => XS.bipush X67.here hx rfl (hb hby at_135) zk) ?_
          refine Go.st (T' := T67) (g' := (mkF m 138 #[.val (.int x0), .val (.int x1), .val (.int x2), .val (.int x3), .val (.int x4), .val (.int kd), .val (.int j1), .val (.int c1), .val (.int c2), .val (.int c3), .val (.int pp), .val (.ref b2), .val (.int (6 : Int32)), .unset, .unset] [(.int (pp % (6 : Int32))), (.ref b2)])) (fun _ zk => iremM X67 hx rfl (hb hby at_137) rfl (by decide) zk) ?_
          refine Go.st (T' := T67) (g' := (mkF m 140 #[.val (.int x0), .val (.int x1), .val (.int x2), .val (.int x3), .val (.int x4), .val (.int kd), .val (.int j1), .val (.int c1), .val (.int c2), .val (.int c3), .val (.int pp), .val (.ref b2), .val (.int (6 : Int32)), .unset, .unset] [(.int c1), (.int (pp % (6 : Int32))), (.ref b2)])) (fun _ zk => XS.iload X67.here hx rfl (hb hby at_138) rfl zk) ?_
          have hj69 := own_md (p := pp) (k := 6) qpp (by decide)
          obtain ⟨T69, h69, X69, e69, W69, V69, st69⟩ := stCV X67 hx hZ e67 V67 (j := (pp % (6 : Int32))) (i := ((pp % (6 : Int32))).toNatClampNeg) hj69 rfl (own_mdn hj69) (g := (mkF m 140 #[.val (.int x0), .val (.int x1), .val (.int x2), .val (.int x3), .val (.int x4), .val (.int kd), .val (.int j1), .val (.int c1), .val (.int c2), .val (.int c3), .val (.int pp), .val (.ref b2), .val (.int (6 : Int32)), .unset, .unset] [(.int c1), (.int (pp % (6 : Int32))), (.ref b2)])) rfl rfl (hb hby at_140)
          rw [nar_cid (x := c1) qc1] at V69
          have V69' : Arv Z h69 b2 k2 .char (10 : Int32) ((([(45 : Int32), (45 : Int32), (104 : Int32), (101 : Int32), (108 : Int32), (112 : Int32), (0 : Int32), (0 : Int32), (0 : Int32), (0 : Int32)] : List Int32).set ((pp % (6 : Int32))).toNatClampNeg c1).map Value.int) (.int (0 : Int32)) := by
            rw [List.map_set]
            exact V69
          have N69 := Fr.snoc X69 N67 (Nat.le_trans Z0 (Nat.le_trans (Nat.le_refl _) (Nat.le_of_eq g2.symm)))
          refine Go.st (T' := T69) (g' := (mkF m 141 #[.val (.int x0), .val (.int x1), .val (.int x2), .val (.int x3), .val (.int x4), .val (.int kd), .val (.int j1), .val (.int c1), .val (.int c2), .val (.int c3), .val (.int pp), .val (.ref b2), .val (.int (6 : Int32)), .unset, .unset] [])) (fun _ zk => st69 _ zk) ?_
          refine Go.st (T' := T69) (g' := (mkF m 323 #[.val (.int x0), .val (.int x1), .val (.int x2), .val (.int x3), .val (.int x4), .val (.int kd), .val (.int j1), .val (.int c1), .val (.int c2), .val (.int c3), .val (.int pp), .val (.ref b2), .val (.int (6 : Int32)), .unset, .unset] [])) (fun _ zk => XS.goto X69.here hx rfl (pc0 := 141) (pc' := 323) rfl (hb hby at_141) (by decide) (by decide) zk) ?_
          have hrl : ∀ c ∈ ([(45 : Int32), (45 : Int32), (104 : Int32), (101 : Int32), (108 : Int32), (112 : Int32), (0 : Int32), (0 : Int32), (0 : Int32), (0 : Int32)] : List Int32), 0 ≤ c.toInt ∧ c.toInt < 65536 := by
            simp only [List.forall_mem_cons]
            exact ⟨(by decide), (by decide), (by decide), (by decide), (by decide), (by decide), (by decide), (by decide), (by decide), (by decide), fun _ q => nomatch q⟩
          have xt70 : Ext h0 h69 := ((E2.thenK K67 (allS (P := fun x => h0.size ≤ x) (Nat.le_of_eq g2.symm) all0)).thenW W69 (Nat.le_of_eq g2.symm))
          exact tail _ _ _ (([(45 : Int32), (45 : Int32), (104 : Int32), (101 : Int32), (108 : Int32), (112 : Int32), (0 : Int32), (0 : Int32), (0 : Int32), (0 : Int32)] : List Int32).set ((pp % (6 : Int32))).toNatClampNeg c1) _ X69 e69 N69 xt70 V69' (by rw [List.length_set]; rfl) (own_setr hrl qc1)
      · refine Go.st (T' := T2) (g' := (mkF m 144 #[.val (.int x0), .val (.int x1), .val (.int x2), .val (.int x3), .val (.int x4), .val (.int kd), .val (.int j1), .val (.int c1), .val (.int c2), .val (.int c3), .val (.int pp), .val (.ref b2), .unset, .unset, .unset] [])) (fun _ zk => XS.icmpYes X2.here hx rfl (pc0 := 114) (pc' := 144) rfl (hb hby at_114) rfl (feq hc114).2 (by decide) (by decide) zk) ?_
        refine Go.st (T' := T2) (g' := (mkF m 146 #[.val (.int x0), .val (.int x1), .val (.int x2), .val (.int x3), .val (.int x4), .val (.int kd), .val (.int j1), .val (.int c1), .val (.int c2), .val (.int c3), .val (.int pp), .val (.ref b2), .unset, .unset, .unset] [(.int kd)])) (fun _ zk => XS.iload X2.here hx rfl (hb hby at_144) rfl zk) ?_
        refine Go.st (T' := T2) (g' := (mkF m 147 #[.val (.int x0), .val (.int x1), .val (.int x2), .val (.int x3), .val (.int x4), .val (.int kd), .val (.int j1), .val (.int c1), .val (.int c2), .val (.int c3), .val (.int pp), .val (.ref b2), .unset, .unset, .unset] [(.int (3 : Int32)), (.int kd)])) (fun _ zk => XS.iconst X2.here hx rfl (hb hby at_146) zk) ?_
        by_cases hc147 : kd = (3 : Int32)
        · refine Go.st (T' := T2) (g' := (mkF m 150 #[.val (.int x0), .val (.int x1), .val (.int x2), .val (.int x3), .val (.int x4), .val (.int kd), .val (.int j1), .val (.int c1), .val (.int c2), .val (.int c3), .val (.int pp), .val (.ref b2), .unset, .unset, .unset] [])) (fun _ zk => XS.icmpNo X2.here hx rfl (hb hby at_147) rfl (teq hc147).2 zk) ?_
          refine Go.st (T' := T2) (g' := (mkF m 152 #[.val (.int x0), .val (.int x1), .val (.int x2), .val (.int x3), .val (.int x4), .val (.int kd), .val (.int j1), .val (.int c1), .val (.int c2), .val (.int c3), .val (.int pp), .val (.ref b2), .unset, .unset, .unset] [(.int (9 : Int32))])) (fun _ zk => XS.bipush X2.here hx rfl (hb hby at_150) zk) ?_
          refine Go.st (T' := T2) (g' := (mkF m 154 #[.val (.int x0), .val (.int x1), .val (.int x2), .val (.int x3), .val (.int x4), .val (.int kd), .val (.int j1), .val (.int c1), .val (.int c2), .val (.int c3), .val (.int pp), .val (.ref b2), .val (.int (9 : Int32)), .unset, .unset] [])) (fun _ zk => XS.istore X2.here hx rfl (hb hby at_152) rfl (l' := #[.val (.int x0), .val (.int x1), .val (.int x2), .val (.int x3), .val (.int x4), .val (.int kd), .val (.int j1), .val (.int c1), .val (.int c2), .val (.int c3), .val (.int pp), .val (.ref b2), .val (.int (9 : Int32)), .unset, .unset]) rfl zk) ?_
          refine Go.st (T' := T2) (g' := (mkF m 156 #[.val (.int x0), .val (.int x1), .val (.int x2), .val (.int x3), .val (.int x4), .val (.int kd), .val (.int j1), .val (.int c1), .val (.int c2), .val (.int c3), .val (.int pp), .val (.ref b2), .val (.int (9 : Int32)), .unset, .unset] [(.ref b2)])) (fun _ zk => XS.aload X2.here hx rfl (hb hby at_154) rfl rfl zk) ?_
          refine Go.callSt (y := (⟨"com/example/tierbook/tierbook/cli/FlagNamedPinLaw", "version", "([C)V"⟩ : MethodName)) X2 hx hZ hown e2 (w77 hw) (w78 hw) (w5 hw) (w79 hw) (by decide) (argsL := [(.ref b2)]) (rest := []) (W := 0) (rm_version l Z a0 hw [] b2 k2 h2 n0 (Nat.le_trans Z0 E2.1) V2 (Nat.le_trans Z0 (Nat.le_trans (Nat.le_refl _) (Nat.le_of_eq g2.symm)))) rfl (lenOf pd25 rfl) rfl (by rw [hml]; rfl) rfl (by show 2 * 0 + _ ≤ _; exact Nat.le_of_eq rfl) (by decide) (by decide) (by decide) (by decide) (hb hby at_156) ?_
          intro v71 T71 h71 L71 X71 e71 q71
          obtain ⟨hv71, Nf71, K71, V71⟩ := q71
          subst hv71
          have N71 := Fr.app N0 Nf71
          show Go p.tables e below _ T71 (mkF m 159 #[.val (.int x0), .val (.int x1), .val (.int x2), .val (.int x3), .val (.int x4), .val (.int kd), .val (.int j1), .val (.int c1), .val (.int c2), .val (.int c3), .val (.int pp), .val (.ref b2), .val (.int (9 : Int32)), .unset, .unset] [])
          refine Go.st (T' := T71) (g' := (mkF m 161 #[.val (.int x0), .val (.int x1), .val (.int x2), .val (.int x3), .val (.int x4), .val (.int kd), .val (.int j1), .val (.int c1), .val (.int c2), .val (.int c3), .val (.int pp), .val (.ref b2), .val (.int (9 : Int32)), .unset, .unset] [(.int j1)])) (fun _ zk => XS.iload X71.here hx rfl (hb hby at_159) rfl zk) ?_
          by_cases hc161 : j1 = (0 : Int32)
          · refine Go.st (T' := T71) (g' := (mkF m 323 #[.val (.int x0), .val (.int x1), .val (.int x2), .val (.int x3), .val (.int x4), .val (.int kd), .val (.int j1), .val (.int c1), .val (.int c2), .val (.int c3), .val (.int pp), .val (.ref b2), .val (.int (9 : Int32)), .unset, .unset] [])) (fun _ zk => XS.ifYes X71.here hx rfl (pc0 := 161) (pc' := 323) rfl (hb hby at_161) rfl ((if0 _ _).trans (teq hc161).1) (by decide) (by decide) zk) ?_
            have hrl : ∀ c ∈ ([(45 : Int32), (45 : Int32), (118 : Int32), (101 : Int32), (114 : Int32), (115 : Int32), (105 : Int32), (111 : Int32), (110 : Int32), (0 : Int32)] : List Int32), 0 ≤ c.toInt ∧ c.toInt < 65536 := by
              simp only [List.forall_mem_cons]
              exact ⟨(by decide), (by decide), (by decide), (by decide), (by decide), (by decide), (by decide), (by decide), (by decide), (by decide), fun _ q => nomatch q⟩
            have xt72 : Ext h0 h71 := (E2.thenK K71 (allS (P := fun x => h0.size ≤ x) (Nat.le_of_eq g2.symm) all0))
            exact tail _ _ _ ([(45 : Int32), (45 : Int32), (118 : Int32), (101 : Int32), (114 : Int32), (115 : Int32), (105 : Int32), (111 : Int32), (110 : Int32), (0 : Int32)]) _ X71 e71 N71 xt72 V71 rfl hrl
          · refine Go.st (T' := T71) (g' := (mkF m 164 #[.val (.int x0), .val (.int x1), .val (.int x2), .val (.int x3), .val (.int x4), .val (.int kd), .val (.int j1), .val (.int c1), .val (.int c2), .val (.int c3), .val (.int pp), .val (.ref b2), .val (.int (9 : Int32)), .unset, .unset] [])) (fun _ zk => XS.ifNo X71.here hx rfl (hb hby at_161) rfl ((if0 _ _).trans (feq hc161).1) zk) ?_
            refine Go.st (T' := T71) (g' := (mkF m 166 #[.val (.int x0), .val (.int x1), .val (.int x2), .val (.int x3), .val (.int x4), .val (.int kd), .val (.int j1), .val (.int c1), .val (.int c2), .val (.int c3), .val (.int pp), .val (.ref b2), .val (.int (9 : Int32)), .unset, .unset] [(.ref b2)])) (fun _ zk => XS.aload X71.here hx rfl (hb hby at_164) rfl rfl zk) ?_
            refine Go.st (T' := T71) (g' := (mkF m 168 #[.val (.int x0), .val (.int x1), .val (.int x2), .val (.int x3), .val (.int x4), .val (.int kd), .val (.int j1), .val (.int c1), .val (.int c2), .val (.int c3), .val (.int pp), .val (.ref b2), .val (.int (9 : Int32)), .unset, .unset] [(.int pp), (.ref b2)])) (fun _ zk => XS.iload X71.here hx rfl (hb hby at_166) rfl zk) ?_
            refine Go.st (T' := T71) (g' := (mkF m 170 #[.val (.int x0), .val (.int x1), .val (.int x2), .val (.int x3), .val (.int x4), .val (.int kd), .val (.int j1), .val (.int c1), .val (.int c2), .val (.int c3), .val (.int pp), .val (.ref b2), .val (.int (9 : Int32)), .unset, .unset] [(.int (9 : Int32)), (.int pp), (.ref b2)])) (fun _ zk => XS.bipush X71.here hx rfl (hb hby at_168) zk) ?_
            refine Go.st (T' := T71) (g' := (mkF m 171 #[.val (.int x0), .val (.int x1), .val (.int x2), .val (.int x3), .val (.int x4), .val (.int kd), .val (.int j1), .val (.int c1), .val (.int c2), .val (.int c3), .val (.int pp), .val (.ref b2), .val (.int (9 : Int32)), .unset, .unset] [(.int (pp % (9 : Int32))), (.ref b2)])) (fun _ zk => iremM X71 hx rfl (hb hby at_170) rfl (by decide) zk) ?_
            refine Go.st (T' := T71) (g' := (mkF m 173 #[.val (.int x0), .val (.int x1), .val (.int x2), .val (.int x3), .val (.int x4), .val (.int kd), .val (.int j1), .val (.int c1), .val (.int c2), .val (.int c3), .val (.int pp), .val (.ref b2), .val (.int (9 : Int32)), .unset, .unset] [(.int c1), (.int (pp % (9 : Int32))), (.ref b2)])) (fun _ zk => XS.iload X71.here hx rfl (hb hby at_171) rfl zk) ?_
            have hj73 := own_md (p := pp) (k := 9) qpp (by decide)
            obtain ⟨T73, h73, X73, e73, W73, V73, st73⟩ := stCV X71 hx hZ e71 V71 (j := (pp % (9 : Int32))) (i := ((pp % (9 : Int32))).toNatClampNeg) hj73 rfl (own_mdn hj73) (g := (mkF m 173 #[.val (.int x0), .val (.int x1), .val (.int x2), .val (.int x3), .val (.int x4), .val (.int kd), .val (.int j1), .val (.int c1), .val (.int c2), .val (.int c3), .val (.int pp), .val (.ref b2), .val (.int (9 : Int32)), .unset, .unset] [(.int c1), (.int (pp % (9 : Int32))), (.ref b2)])) rfl rfl (hb hby at_173)
            rw [nar_cid (x := c1) qc1] at V73
            have V73' : Arv Z h73 b2 k2 .char (10 : Int32) ((([(45 : Int32), (45 : Int32), (118 : Int32), (101 : Int32), (114 : Int32), (115 : Int32), (105 : Int32), (111 : Int32), (110 : Int32), (0 : Int32)] : List Int32).set ((pp % (9 : Int32))).toNatClampNeg c1).map Value.int) (.int (0 : Int32)) := by
              rw [List.map_set]
              exact V73
            have N73 := Fr.snoc X73 N71 (Nat.le_trans Z0 (Nat.le_trans (Nat.le_refl _) (Nat.le_of_eq g2.symm)))
            refine Go.st (T' := T73) (g' := (mkF m 174 #[.val (.int x0), .val (.int x1), .val (.int x2), .val (.int x3), .val (.int x4), .val (.int kd), .val (.int j1), .val (.int c1), .val (.int c2), .val (.int c3), .val (.int pp), .val (.ref b2), .val (.int (9 : Int32)), .unset, .unset] [])) (fun _ zk => st73 _ zk) ?_
            refine Go.st (T' := T73) (g' := (mkF m 323 #[.val (.int x0), .val (.int x1), .val (.int x2), .val (.int x3), .val (.int x4), .val (.int kd), .val (.int j1), .val (.int c1), .val (.int c2), .val (.int c3), .val (.int pp), .val (.ref b2), .val (.int (9 : Int32)), .unset, .unset] [])) (fun _ zk => XS.goto X73.here hx rfl (pc0 := 174) (pc' := 323) rfl (hb hby at_174) (by decide) (by decide) zk) ?_
            have hrl : ∀ c ∈ ([(45 : Int32), (45 : Int32), (118 : Int32), (101 : Int32), (114 : Int32), (115 : Int32), (105 : Int32), (111 : Int32), (110 : Int32), (0 : Int32)] : List Int32), 0 ≤ c.toInt ∧ c.toInt < 65536 := by
              simp only [List.forall_mem_cons]
              exact ⟨(by decide), (by decide), (by decide), (by decide), (by decide), (by decide), (by decide), (by decide), (by decide), (by decide), fun _ q => nomatch q⟩
            have xt74 : Ext h0 h73 := ((E2.thenK K71 (allS (P := fun x => h0.size ≤ x) (Nat.le_of_eq g2.symm) all0)).thenW W73 (Nat.le_of_eq g2.symm))
            exact tail _ _ _ (([(45 : Int32), (45 : Int32), (118 : Int32), (101 : Int32), (114 : Int32), (115 : Int32), (105 : Int32), (111 : Int32), (110 : Int32), (0 : Int32)] : List Int32).set ((pp % (9 : Int32))).toNatClampNeg c1) _ X73 e73 N73 xt74 V73' (by rw [List.length_set]; rfl) (own_setr hrl qc1)
        · refine Go.st (T' := T2) (g' := (mkF m 177 #[.val (.int x0), .val (.int x1), .val (.int x2), .val (.int x3), .val (.int x4), .val (.int kd), .val (.int j1), .val (.int c1), .val (.int c2), .val (.int c3), .val (.int pp), .val (.ref b2), .unset, .unset, .unset] [])) (fun _ zk => XS.icmpYes X2.here hx rfl (pc0 := 147) (pc' := 177) rfl (hb hby at_147) rfl (feq hc147).2 (by decide) (by decide) zk) ?_
          refine Go.st (T' := T2) (g' := (mkF m 179 #[.val (.int x0), .val (.int x1), .val (.int x2), .val (.int x3), .val (.int x4), .val (.int kd), .val (.int j1), .val (.int c1), .val (.int c2), .val (.int c3), .val (.int pp), .val (.ref b2), .unset, .unset, .unset] [(.int kd)])) (fun _ zk => XS.iload X2.here hx rfl (hb hby at_177) rfl zk) ?_
          refine Go.st (T' := T2) (g' := (mkF m 180 #[.val (.int x0), .val (.int x1), .val (.int x2), .val (.int x3), .val (.int x4), .val (.int kd), .val (.int j1), .val (.int c1), .val (.int c2), .val (.int c3), .val (.int pp), .val (.ref b2), .unset, .unset, .unset] [(.int (4 : Int32)), (.int kd)])) (fun _ zk => XS.iconst X2.here hx rfl (hb hby at_179) zk) ?_
          by_cases hc180 : kd = (4 : Int32)
          · refine Go.st (T' := T2) (g' := (mkF m 183 #[.val (.int x0), .val (.int x1), .val (.int x2), .val (.int x3), .val (.int x4), .val (.int kd), .val (.int j1), .val (.int c1), .val (.int c2), .val (.int c3), .val (.int pp), .val (.ref b2), .unset, .unset, .unset] [])) (fun _ zk => XS.icmpNo X2.here hx rfl (hb hby at_180) rfl (teq hc180).2 zk) ?_
            refine Go.st (T' := T2) (g' := (mkF m 185 #[.val (.int x0), .val (.int x1), .val (.int x2), .val (.int x3), .val (.int x4), .val (.int kd), .val (.int j1), .val (.int c1), .val (.int c2), .val (.int c3), .val (.int pp), .val (.ref b2), .unset, .unset, .unset] [(.int j1)])) (fun _ zk => XS.iload X2.here hx rfl (hb hby at_183) rfl zk) ?_
            by_cases hc185 : j1 = (0 : Int32)
            · refine Go.st (T' := T2) (g' := (mkF m 203 #[.val (.int x0), .val (.int x1), .val (.int x2), .val (.int x3), .val (.int x4), .val (.int kd), .val (.int j1), .val (.int c1), .val (.int c2), .val (.int c3), .val (.int pp), .val (.ref b2), .unset, .unset, .unset] [])) (fun _ zk => XS.ifYes X2.here hx rfl (pc0 := 185) (pc' := 203) rfl (hb hby at_185) rfl ((if0 _ _).trans (teq hc185).1) (by decide) (by decide) zk) ?_
              refine Go.st (T' := T2) (g' := (mkF m 205 #[.val (.int x0), .val (.int x1), .val (.int x2), .val (.int x3), .val (.int x4), .val (.int kd), .val (.int j1), .val (.int c1), .val (.int c2), .val (.int c3), .val (.int pp), .val (.ref b2), .unset, .unset, .unset] [(.ref b2)])) (fun _ zk => XS.aload X2.here hx rfl (hb hby at_203) rfl rfl zk) ?_
              refine Go.callSt (y := (⟨"com/example/tierbook/tierbook/cli/FlagNamedPinLaw", "version", "([C)V"⟩ : MethodName)) X2 hx hZ hown e2 (w77 hw) (w78 hw) (w5 hw) (w79 hw) (by decide) (argsL := [(.ref b2)]) (rest := []) (W := 0) (rm_version l Z a0 hw [] b2 k2 h2 n0 (Nat.le_trans Z0 E2.1) V2 (Nat.le_trans Z0 (Nat.le_trans (Nat.le_refl _) (Nat.le_of_eq g2.symm)))) rfl (lenOf pd25 rfl) rfl (by rw [hml]; rfl) rfl (by show 2 * 0 + _ ≤ _; exact Nat.le_of_eq rfl) (by decide) (by decide) (by decide) (by decide) (hb hby at_205) ?_
              intro v75 T75 h75 L75 X75 e75 q75
              obtain ⟨hv75, Nf75, K75, V75⟩ := q75
              subst hv75
              have N75 := Fr.app N0 Nf75
              show Go p.tables e below _ T75 (mkF m 208 #[.val (.int x0), .val (.int x1), .val (.int x2), .val (.int x3), .val (.int x4), .val (.int kd), .val (.int j1), .val (.int c1), .val (.int c2), .val (.int c3), .val (.int pp), .val (.ref b2), .unset, .unset, .unset] [])
              refine Go.st (T' := T75) (g' := (mkF m 210 #[.val (.int x0), .val (.int x1), .val (.int x2), .val (.int x3), .val (.int x4), .val (.int kd), .val (.int j1), .val (.int c1), .val (.int c2), .val (.int c3), .val (.int pp), .val (.ref b2), .unset, .unset, .unset] [(.int pp)])) (fun _ zk => XS.iload X75.here hx rfl (hb hby at_208) rfl zk) ?_
              refine Go.st (T' := T75) (g' := (mkF m 212 #[.val (.int x0), .val (.int x1), .val (.int x2), .val (.int x3), .val (.int x4), .val (.int kd), .val (.int j1), .val (.int c1), .val (.int c2), .val (.int c3), .val (.int pp), .val (.ref b2), .unset, .unset, .unset] [(.int (10 : Int32)), (.int pp)])) (fun _ zk => XS.bipush X75.here hx rfl (hb hby at_210) zk) ?_
              refine Go.st (T' := T75) (g' := (mkF m 213 #[.val (.int x0), .val (.int x1), .val (.int x2), .val (.int x3), .val (.int x4), .val (.int kd), .val (.int j1), .val (.int c1), .val (.int c2), .val (.int c3), .val (.int pp), .val (.ref b2), .unset, .unset, .unset] [(.int (pp % (10 : Int32)))])) (fun _ zk => iremM X75 hx rfl (hb hby at_212) rfl (by decide) zk) ?_
              refine Go.st (T' := T75) (g' := (mkF m 215 #[.val (.int x0), .val (.int x1), .val (.int x2), .val (.int x3), .val (.int x4), .val (.int kd), .val (.int j1), .val (.int c1), .val (.int c2), .val (.int c3), .val (.int pp), .val (.ref b2), .val (.int (pp % (10 : Int32))), .unset, .unset] [])) (fun _ zk => XS.istore X75.here hx rfl (hb hby at_213) rfl (l' := #[.val (.int x0), .val (.int x1), .val (.int x2), .val (.int x3), .val (.int x4), .val (.int kd), .val (.int j1), .val (.int c1), .val (.int c2), .val (.int c3), .val (.int pp), .val (.ref b2), .val (.int (pp % (10 : Int32))), .unset, .unset]) rfl zk) ?_
              refine Go.st (T' := T75) (g' := (mkF m 323 #[.val (.int x0), .val (.int x1), .val (.int x2), .val (.int x3), .val (.int x4), .val (.int kd), .val (.int j1), .val (.int c1), .val (.int c2), .val (.int c3), .val (.int pp), .val (.ref b2), .val (.int (pp % (10 : Int32))), .unset, .unset] [])) (fun _ zk => XS.goto X75.here hx rfl (pc0 := 215) (pc' := 323) rfl (hb hby at_215) (by decide) (by decide) zk) ?_
              have hrl : ∀ c ∈ ([(45 : Int32), (45 : Int32), (118 : Int32), (101 : Int32), (114 : Int32), (115 : Int32), (105 : Int32), (111 : Int32), (110 : Int32), (0 : Int32)] : List Int32), 0 ≤ c.toInt ∧ c.toInt < 65536 := by
                simp only [List.forall_mem_cons]
                exact ⟨(by decide), (by decide), (by decide), (by decide), (by decide), (by decide), (by decide), (by decide), (by decide), (by decide), fun _ q => nomatch q⟩
              have xt76 : Ext h0 h75 := (E2.thenK K75 (allS (P := fun x => h0.size ≤ x) (Nat.le_of_eq g2.symm) all0))
              exact tail _ _ _ ([(45 : Int32), (45 : Int32), (118 : Int32), (101 : Int32), (114 : Int32), (115 : Int32), (105 : Int32), (111 : Int32), (110 : Int32), (0 : Int32)]) _ X75 e75 N75 xt76 V75 rfl hrl
            · refine Go.st (T' := T2) (g' := (mkF m 188 #[.val (.int x0), .val (.int x1), .val (.int x2), .val (.int x3), .val (.int x4), .val (.int kd), .val (.int j1), .val (.int c1), .val (.int c2), .val (.int c3), .val (.int pp), .val (.ref b2), .unset, .unset, .unset] [])) (fun _ zk => XS.ifNo X2.here hx rfl (hb hby at_185) rfl ((if0 _ _).trans (feq hc185).1) zk) ?_
              refine Go.st (T' := T2) (g' := (mkF m 190 #[.val (.int x0), .val (.int x1), .val (.int x2), .val (.int x3), .val (.int x4), .val (.int kd), .val (.int j1), .val (.int c1), .val (.int c2), .val (.int c3), .val (.int pp), .val (.ref b2), .unset, .unset, .unset] [(.ref b2)])) (fun _ zk => XS.aload X2.here hx rfl (hb hby at_188) rfl rfl zk) ?_
              refine Go.callSt (y := (⟨"com/example/tierbook/tierbook/cli/FlagNamedPinLaw", "help", "([C)V"⟩ : MethodName)) X2 hx hZ hown e2 (w141 hw) (w142 hw) (w5 hw) (w143 hw) (by decide) (argsL := [(.ref b2)]) (rest := []) (W := 0) (rm_help l Z a0 hw [] b2 k2 h2 n0 (Nat.le_trans Z0 E2.1) V2 (Nat.le_trans Z0 (Nat.le_trans (Nat.le_refl _) (Nat.le_of_eq g2.symm)))) rfl (lenOf pd25 rfl) rfl (by rw [hml]; rfl) rfl (by show 2 * 0 + _ ≤ _; exact Nat.le_of_eq rfl) (by decide) (by decide) (by decide) (by decide) (hb hby at_190) ?_
              intro v77 T77 h77 L77 X77 e77 q77
              obtain ⟨hv77, Nf77, K77, V77⟩ := q77
              subst hv77
              have N77 := Fr.app N0 Nf77
              show Go p.tables e below _ T77 (mkF m 193 #[.val (.int x0), .val (.int x1), .val (.int x2), .val (.int x3), .val (.int x4), .val (.int kd), .val (.int j1), .val (.int c1), .val (.int c2), .val (.int c3), .val (.int pp), .val (.ref b2), .unset, .unset, .unset] [])
              refine Go.st (T' := T77) (g' := (mkF m 195 #[.val (.int x0), .val (.int x1), .val (.int x2), .val (.int x3), .val (.int x4), .val (.int kd), .val (.int j1), .val (.int c1), .val (.int c2), .val (.int c3), .val (.int pp), .val (.ref b2), .unset, .unset, .unset] [(.int pp)])) (fun _ zk => XS.iload X77.here hx rfl (hb hby at_193) rfl zk) ?_
              refine Go.st (T' := T77) (g' := (mkF m 197 #[.val (.int x0), .val (.int x1), .val (.int x2), .val (.int x3), .val (.int x4), .val (.int kd), .val (.int j1), .val (.int c1), .val (.int c2), .val (.int c3), .val (.int pp), .val (.ref b2), .unset, .unset, .unset] [(.int (7 : Int32)), (.int pp)])) (fun _ zk => XS.bipush X77.here hx rfl (hb hby at_195) zk) ?_
              refine Go.st (T' := T77) (g' := (mkF m 198 #[.val (.int x0), .val (.int x1), .val (.int x2), .val (.int x3), .val (.int x4), .val (.int kd), .val (.int j1), .val (.int c1), .val (.int c2), .val (.int c3), .val (.int pp), .val (.ref b2), .unset, .unset, .unset] [(.int (pp % (7 : Int32)))])) (fun _ zk => iremM X77 hx rfl (hb hby at_197) rfl (by decide) zk) ?_
              refine Go.st (T' := T77) (g' := (mkF m 200 #[.val (.int x0), .val (.int x1), .val (.int x2), .val (.int x3), .val (.int x4), .val (.int kd), .val (.int j1), .val (.int c1), .val (.int c2), .val (.int c3), .val (.int pp), .val (.ref b2), .val (.int (pp % (7 : Int32))), .unset, .unset] [])) (fun _ zk => XS.istore X77.here hx rfl (hb hby at_198) rfl (l' := #[.val (.int x0), .val (.int x1), .val (.int x2), .val (.int x3), .val (.int x4), .val (.int kd), .val (.int j1), .val (.int c1), .val (.int c2), .val (.int c3), .val (.int pp), .val (.ref b2), .val (.int (pp % (7 : Int32))), .unset, .unset]) rfl zk) ?_
              refine Go.st (T' := T77) (g' := (mkF m 323 #[.val (.int x0), .val (.int x1), .val (.int x2), .val (.int x3), .val (.int x4), .val (.int kd), .val (.int j1), .val (.int c1), .val (.int c2), .val (.int c3), .val (.int pp), .val (.ref b2), .val (.int (pp % (7 : Int32))), .unset, .unset] [])) (fun _ zk => XS.goto X77.here hx rfl (pc0 := 200) (pc' := 323) rfl (hb hby at_200) (by decide) (by decide) zk) ?_
              have hrl : ∀ c ∈ ([(45 : Int32), (45 : Int32), (104 : Int32), (101 : Int32), (108 : Int32), (112 : Int32), (0 : Int32), (0 : Int32), (0 : Int32), (0 : Int32)] : List Int32), 0 ≤ c.toInt ∧ c.toInt < 65536 := by
                simp only [List.forall_mem_cons]
                exact ⟨(by decide), (by decide), (by decide), (by decide), (by decide), (by decide), (by decide), (by decide), (by decide), (by decide), fun _ q => nomatch q⟩
              have xt78 : Ext h0 h77 := (E2.thenK K77 (allS (P := fun x => h0.size ≤ x) (Nat.le_of_eq g2.symm) all0))
              exact tail _ _ _ ([(45 : Int32), (45 : Int32), (104 : Int32), (101 : Int32), (108 : Int32), (112 : Int32), (0 : Int32), (0 : Int32), (0 : Int32), (0 : Int32)]) _ X77 e77 N77 xt78 V77 rfl hrl
          · refine Go.st (T' := T2) (g' := (mkF m 218 #[.val (.int x0), .val (.int x1), .val (.int x2), .val (.int x3), .val (.int x4), .val (.int kd), .val (.int j1), .val (.int c1), .val (.int c2), .val (.int c3), .val (.int pp), .val (.ref b2), .unset, .unset, .unset] [])) (fun _ zk => XS.icmpYes X2.here hx rfl (pc0 := 180) (pc' := 218) rfl (hb hby at_180) rfl (feq hc180).2 (by decide) (by decide) zk) ?_
            refine Go.st (T' := T2) (g' := (mkF m 220 #[.val (.int x0), .val (.int x1), .val (.int x2), .val (.int x3), .val (.int x4), .val (.int kd), .val (.int j1), .val (.int c1), .val (.int c2), .val (.int c3), .val (.int pp), .val (.ref b2), .unset, .unset, .unset] [(.int kd)])) (fun _ zk => XS.iload X2.here hx rfl (hb hby at_218) rfl zk) ?_
            refine Go.st (T' := T2) (g' := (mkF m 221 #[.val (.int x0), .val (.int x1), .val (.int x2), .val (.int x3), .val (.int x4), .val (.int kd), .val (.int j1), .val (.int c1), .val (.int c2), .val (.int c3), .val (.int pp), .val (.ref b2), .unset, .unset, .unset] [(.int (5 : Int32)), (.int kd)])) (fun _ zk => XS.iconst X2.here hx rfl (hb hby at_220) zk) ?_
            by_cases hc221 : kd = (5 : Int32)
            · refine Go.st (T' := T2) (g' := (mkF m 224 #[.val (.int x0), .val (.int x1), .val (.int x2), .val (.int x3), .val (.int x4), .val (.int kd), .val (.int j1), .val (.int c1), .val (.int c2), .val (.int c3), .val (.int pp), .val (.ref b2), .unset, .unset, .unset] [])) (fun _ zk => XS.icmpNo X2.here hx rfl (hb hby at_221) rfl (teq hc221).2 zk) ?_
              refine Go.st (T' := T2) (g' := (mkF m 226 #[.val (.int x0), .val (.int x1), .val (.int x2), .val (.int x3), .val (.int x4), .val (.int kd), .val (.int j1), .val (.int c1), .val (.int c2), .val (.int c3), .val (.int pp), .val (.ref b2), .unset, .unset, .unset] [(.int j1)])) (fun _ zk => XS.iload X2.here hx rfl (hb hby at_224) rfl zk) ?_
              by_cases hc226 : j1 = (0 : Int32)
              · refine Go.st (T' := T2) (g' := (mkF m 248 #[.val (.int x0), .val (.int x1), .val (.int x2), .val (.int x3), .val (.int x4), .val (.int kd), .val (.int j1), .val (.int c1), .val (.int c2), .val (.int c3), .val (.int pp), .val (.ref b2), .unset, .unset, .unset] [])) (fun _ zk => XS.ifYes X2.here hx rfl (pc0 := 226) (pc' := 248) rfl (hb hby at_226) rfl ((if0 _ _).trans (teq hc226).1) (by decide) (by decide) zk) ?_
                refine Go.st (T' := T2) (g' := (mkF m 250 #[.val (.int x0), .val (.int x1), .val (.int x2), .val (.int x3), .val (.int x4), .val (.int kd), .val (.int j1), .val (.int c1), .val (.int c2), .val (.int c3), .val (.int pp), .val (.ref b2), .unset, .unset, .unset] [(.ref b2)])) (fun _ zk => XS.aload X2.here hx rfl (hb hby at_248) rfl rfl zk) ?_
                refine Go.callSt (y := (⟨"com/example/tierbook/tierbook/cli/FlagNamedPinLaw", "version", "([C)V"⟩ : MethodName)) X2 hx hZ hown e2 (w77 hw) (w78 hw) (w5 hw) (w79 hw) (by decide) (argsL := [(.ref b2)]) (rest := []) (W := 0) (rm_version l Z a0 hw [] b2 k2 h2 n0 (Nat.le_trans Z0 E2.1) V2 (Nat.le_trans Z0 (Nat.le_trans (Nat.le_refl _) (Nat.le_of_eq g2.symm)))) rfl (lenOf pd25 rfl) rfl (by rw [hml]; rfl) rfl (by show 2 * 0 + _ ≤ _; exact Nat.le_of_eq rfl) (by decide) (by decide) (by decide) (by decide) (hb hby at_250) ?_
                intro v79 T79 h79 L79 X79 e79 q79
                obtain ⟨hv79, Nf79, K79, V79⟩ := q79
                subst hv79
                have N79 := Fr.app N0 Nf79
                show Go p.tables e below _ T79 (mkF m 253 #[.val (.int x0), .val (.int x1), .val (.int x2), .val (.int x3), .val (.int x4), .val (.int kd), .val (.int j1), .val (.int c1), .val (.int c2), .val (.int c3), .val (.int pp), .val (.ref b2), .unset, .unset, .unset] [])
                refine Go.st (T' := T79) (g' := (mkF m 255 #[.val (.int x0), .val (.int x1), .val (.int x2), .val (.int x3), .val (.int x4), .val (.int kd), .val (.int j1), .val (.int c1), .val (.int c2), .val (.int c3), .val (.int pp), .val (.ref b2), .unset, .unset, .unset] [(.ref b2)])) (fun _ zk => XS.aload X79.here hx rfl (hb hby at_253) rfl rfl zk) ?_
                refine Go.st (T' := T79) (g' := (mkF m 257 #[.val (.int x0), .val (.int x1), .val (.int x2), .val (.int x3), .val (.int x4), .val (.int kd), .val (.int j1), .val (.int c1), .val (.int c2), .val (.int c3), .val (.int pp), .val (.ref b2), .unset, .unset, .unset] [(.int (9 : Int32)), (.ref b2)])) (fun _ zk => XS.bipush X79.here hx rfl (hb hby at_255) zk) ?_
                refine Go.st (T' := T79) (g' := (mkF m 259 #[.val (.int x0), .val (.int x1), .val (.int x2), .val (.int x3), .val (.int x4), .val (.int kd), .val (.int j1), .val (.int c1), .val (.int c2), .val (.int c3), .val (.int pp), .val (.ref b2), .unset, .unset, .unset] [(.int c1), (.int (9 : Int32)), (.ref b2)])) (fun _ zk => XS.iload X79.here hx rfl (hb hby at_257) rfl zk) ?_
                obtain ⟨T80, h80, X80, e80, W80, V80, st80⟩ := stCV X79 hx hZ e79 V79 (j := (9 : Int32)) (i := 9) (by decide) rfl (Nat.le_of_ble_eq_true rfl) (g := (mkF m 259 #[.val (.int x0), .val (.int x1), .val (.int x2), .val (.int x3), .val (.int x4), .val (.int kd), .val (.int j1), .val (.int c1), .val (.int c2), .val (.int c3), .val (.int pp), .val (.ref b2), .unset, .unset, .unset] [(.int c1), (.int (9 : Int32)), (.ref b2)])) rfl rfl (hb hby at_259)
                rw [nar_cid (x := c1) qc1] at V80
                have V80' : Arv Z h80 b2 k2 .char (10 : Int32) [(.int (45 : Int32)), (.int (45 : Int32)), (.int (118 : Int32)), (.int (101 : Int32)), (.int (114 : Int32)), (.int (115 : Int32)), (.int (105 : Int32)), (.int (111 : Int32)), (.int (110 : Int32)), (.int c1)] (.int (0 : Int32)) := V80
                have N80 := Fr.snoc X80 N79 (Nat.le_trans Z0 (Nat.le_trans (Nat.le_refl _) (Nat.le_of_eq g2.symm)))
                refine Go.st (T' := T80) (g' := (mkF m 260 #[.val (.int x0), .val (.int x1), .val (.int x2), .val (.int x3), .val (.int x4), .val (.int kd), .val (.int j1), .val (.int c1), .val (.int c2), .val (.int c3), .val (.int pp), .val (.ref b2), .unset, .unset, .unset] [])) (fun _ zk => st80 _ zk) ?_
                refine Go.st (T' := T80) (g' := (mkF m 262 #[.val (.int x0), .val (.int x1), .val (.int x2), .val (.int x3), .val (.int x4), .val (.int kd), .val (.int j1), .val (.int c1), .val (.int c2), .val (.int c3), .val (.int pp), .val (.ref b2), .unset, .unset, .unset] [(.int (10 : Int32))])) (fun _ zk => XS.bipush X80.here hx rfl (hb hby at_260) zk) ?_
                refine Go.st (T' := T80) (g' := (mkF m 264 #[.val (.int x0), .val (.int x1), .val (.int x2), .val (.int x3), .val (.int x4), .val (.int kd), .val (.int j1), .val (.int c1), .val (.int c2), .val (.int c3), .val (.int pp), .val (.ref b2), .val (.int (10 : Int32)), .unset, .unset] [])) (fun _ zk => XS.istore X80.here hx rfl (hb hby at_262) rfl (l' := #[.val (.int x0), .val (.int x1), .val (.int x2), .val (.int x3), .val (.int x4), .val (.int kd), .val (.int j1), .val (.int c1), .val (.int c2), .val (.int c3), .val (.int pp), .val (.ref b2), .val (.int (10 : Int32)), .unset, .unset]) rfl zk) ?_
                refine Go.st (T' := T80) (g' := (mkF m 323 #[.val (.int x0), .val (.int x1), .val (.int x2), .val (.int x3), .val (.int x4), .val (.int kd), .val (.int j1), .val (.int c1), .val (.int c2), .val (.int c3), .val (.int pp), .val (.ref b2), .val (.int (10 : Int32)), .unset, .unset] [])) (fun _ zk => XS.goto X80.here hx rfl (pc0 := 264) (pc' := 323) rfl (hb hby at_264) (by decide) (by decide) zk) ?_
                have hrl : ∀ c ∈ ([(45 : Int32), (45 : Int32), (118 : Int32), (101 : Int32), (114 : Int32), (115 : Int32), (105 : Int32), (111 : Int32), (110 : Int32), c1] : List Int32), 0 ≤ c.toInt ∧ c.toInt < 65536 := by
                  simp only [List.forall_mem_cons]
                  exact ⟨(by decide), (by decide), (by decide), (by decide), (by decide), (by decide), (by decide), (by decide), (by decide), qc1, fun _ q => nomatch q⟩
                have xt81 : Ext h0 h80 := ((E2.thenK K79 (allS (P := fun x => h0.size ≤ x) (Nat.le_of_eq g2.symm) all0)).thenW W80 (Nat.le_of_eq g2.symm))
                exact tail _ _ _ ([(45 : Int32), (45 : Int32), (118 : Int32), (101 : Int32), (114 : Int32), (115 : Int32), (105 : Int32), (111 : Int32), (110 : Int32), c1]) _ X80 e80 N80 xt81 V80' rfl hrl
              · refine Go.st (T' := T2) (g' := (mkF m 229 #[.val (.int x0), .val (.int x1), .val (.int x2), .val (.int x3), .val (.int x4), .val (.int kd), .val (.int j1), .val (.int c1), .val (.int c2), .val (.int c3), .val (.int pp), .val (.ref b2), .unset, .unset, .unset] [])) (fun _ zk => XS.ifNo X2.here hx rfl (hb hby at_226) rfl ((if0 _ _).trans (feq hc226).1) zk) ?_
                refine Go.st (T' := T2) (g' := (mkF m 231 #[.val (.int x0), .val (.int x1), .val (.int x2), .val (.int x3), .val (.int x4), .val (.int kd), .val (.int j1), .val (.int c1), .val (.int c2), .val (.int c3), .val (.int pp), .val (.ref b2), .unset, .unset, .unset] [(.ref b2)])) (fun _ zk => XS.aload X2.here hx rfl (hb hby at_229) rfl rfl zk) ?_
                refine Go.callSt (y := (⟨"com/example/tierbook/tierbook/cli/FlagNamedPinLaw", "help", "([C)V"⟩ : MethodName)) X2 hx hZ hown e2 (w141 hw) (w142 hw) (w5 hw) (w143 hw) (by decide) (argsL := [(.ref b2)]) (rest := []) (W := 0) (rm_help l Z a0 hw [] b2 k2 h2 n0 (Nat.le_trans Z0 E2.1) V2 (Nat.le_trans Z0 (Nat.le_trans (Nat.le_refl _) (Nat.le_of_eq g2.symm)))) rfl (lenOf pd25 rfl) rfl (by rw [hml]; rfl) rfl (by show 2 * 0 + _ ≤ _; exact Nat.le_of_eq rfl) (by decide) (by decide) (by decide) (by decide) (hb hby at_231) ?_
                intro v82 T82 h82 L82 X82 e82 q82
                obtain ⟨hv82, Nf82, K82, V82⟩ := q82
                subst hv82
                have N82 := Fr.app N0 Nf82
                show Go p.tables e below _ T82 (mkF m 234 #[.val (.int x0), .val (.int x1), .val (.int x2), .val (.int x3), .val (.int x4), .val (.int kd), .val (.int j1), .val (.int c1), .val (.int c2), .val (.int c3), .val (.int pp), .val (.ref b2), .unset, .unset, .unset] [])
                refine Go.st (T' := T82) (g' := (mkF m 236 #[.val (.int x0), .val (.int x1), .val (.int x2), .val (.int x3), .val (.int x4), .val (.int kd), .val (.int j1), .val (.int c1), .val (.int c2), .val (.int c3), .val (.int pp), .val (.ref b2), .unset, .unset, .unset] [(.ref b2)])) (fun _ zk => XS.aload X82.here hx rfl (hb hby at_234) rfl rfl zk) ?_
                refine Go.st (T' := T82) (g' := (mkF m 238 #[.val (.int x0), .val (.int x1), .val (.int x2), .val (.int x3), .val (.int x4), .val (.int kd), .val (.int j1), .val (.int c1), .val (.int c2), .val (.int c3), .val (.int pp), .val (.ref b2), .unset, .unset, .unset] [(.int (6 : Int32)), (.ref b2)])) (fun _ zk => XS.bipush X82.here hx rfl (hb hby at_236) zk) ?_
                refine Go.st (T' := T82) (g' := (mkF m 240 #[.val (.int x0), .val (.int x1), .val (.int x2), .val (.int x3), .val (.int x4), .val (.int kd), .val (.int j1), .val (.int c1), .val (.int c2), .val (.int c3), .val (.int pp), .val (.ref b2), .unset, .unset, .unset] [(.int c1), (.int (6 : Int32)), (.ref b2)])) (fun _ zk => XS.iload X82.here hx rfl (hb hby at_238) rfl zk) ?_
                obtain ⟨T83, h83, X83, e83, W83, V83, st83⟩ := stCV X82 hx hZ e82 V82 (j := (6 : Int32)) (i := 6) (by decide) rfl (Nat.le_of_ble_eq_true rfl) (g := (mkF m 240 #[.val (.int x0), .val (.int x1), .val (.int x2), .val (.int x3), .val (.int x4), .val (.int kd), .val (.int j1), .val (.int c1), .val (.int c2), .val (.int c3), .val (.int pp), .val (.ref b2), .unset, .unset, .unset] [(.int c1), (.int (6 : Int32)), (.ref b2)])) rfl rfl (hb hby at_240)
                rw [nar_cid (x := c1) qc1] at V83
                have V83' : Arv Z h83 b2 k2 .char (10 : Int32) [(.int (45 : Int32)), (.int (45 : Int32)), (.int (104 : Int32)), (.int (101 : Int32)), (.int (108 : Int32)), (.int (112 : Int32)), (.int c1), (.int (0 : Int32)), (.int (0 : Int32)), (.int (0 : Int32))] (.int (0 : Int32)) := V83
                have N83 := Fr.snoc X83 N82 (Nat.le_trans Z0 (Nat.le_trans (Nat.le_refl _) (Nat.le_of_eq g2.symm)))
                refine Go.st (T' := T83) (g' := (mkF m 241 #[.val (.int x0), .val (.int x1), .val (.int x2), .val (.int x3), .val (.int x4), .val (.int kd), .val (.int j1), .val (.int c1), .val (.int c2), .val (.int c3), .val (.int pp), .val (.ref b2), .unset, .unset, .unset] [])) (fun _ zk => st83 _ zk) ?_
                refine Go.st (T' := T83) (g' := (mkF m 243 #[.val (.int x0), .val (.int x1), .val (.int x2), .val (.int x3), .val (.int x4), .val (.int kd), .val (.int j1), .val (.int c1), .val (.int c2), .val (.int c3), .val (.int pp), .val (.ref b2), .unset, .unset, .unset] [(.int (7 : Int32))])) (fun _ zk => XS.bipush X83.here hx rfl (hb hby at_241) zk) ?_
                refine Go.st (T' := T83) (g' := (mkF m 245 #[.val (.int x0), .val (.int x1), .val (.int x2), .val (.int x3), .val (.int x4), .val (.int kd), .val (.int j1), .val (.int c1), .val (.int c2), .val (.int c3), .val (.int pp), .val (.ref b2), .val (.int (7 : Int32)), .unset, .unset] [])) (fun _ zk => XS.istore X83.here hx rfl (hb hby at_243) rfl (l' := #[.val (.int x0), .val (.int x1), .val (.int x2), .val (.int x3), .val (.int x4), .val (.int kd), .val (.int j1), .val (.int c1), .val (.int c2), .val (.int c3), .val (.int pp), .val (.ref b2), .val (.int (7 : Int32)), .unset, .unset]) rfl zk) ?_
                refine Go.st (T' := T83) (g' := (mkF m 323 #[.val (.int x0), .val (.int x1), .val (.int x2), .val (.int x3), .val (.int x4), .val (.int kd), .val (.int j1), .val (.int c1), .val (.int c2), .val (.int c3), .val (.int pp), .val (.ref b2), .val (.int (7 : Int32)), .unset, .unset] [])) (fun _ zk => XS.goto X83.here hx rfl (pc0 := 245) (pc' := 323) rfl (hb hby at_245) (by decide) (by decide) zk) ?_
                have hrl : ∀ c ∈ ([(45 : Int32), (45 : Int32), (104 : Int32), (101 : Int32), (108 : Int32), (112 : Int32), c1, (0 : Int32), (0 : Int32), (0 : Int32)] : List Int32), 0 ≤ c.toInt ∧ c.toInt < 65536 := by
                  simp only [List.forall_mem_cons]
                  exact ⟨(by decide), (by decide), (by decide), (by decide), (by decide), (by decide), qc1, (by decide), (by decide), (by decide), fun _ q => nomatch q⟩
                have xt84 : Ext h0 h83 := ((E2.thenK K82 (allS (P := fun x => h0.size ≤ x) (Nat.le_of_eq g2.symm) all0)).thenW W83 (Nat.le_of_eq g2.symm))
                exact tail _ _ _ ([(45 : Int32), (45 : Int32), (104 : Int32), (101 : Int32), (108 : Int32), (112 : Int32), c1, (0 : Int32), (0 : Int32), (0 : Int32)]) _ X83 e83 N83 xt84 V83' rfl hrl
            · refine Go.st (T' := T2) (g' := (mkF m 267 #[.val (.int x0), .val (.int x1), .val (.int x2), .val (.int x3), .val (.int x4), .val (.int kd), .val (.int j1), .val (.int c1), .val (.int c2), .val (.int c3), .val (.int pp), .val (.ref b2), .unset, .unset, .unset] [])) (fun _ zk => XS.icmpYes X2.here hx rfl (pc0 := 221) (pc' := 267) rfl (hb hby at_221) rfl (feq hc221).2 (by decide) (by decide) zk) ?_
              refine Go.st (T' := T2) (g' := (mkF m 269 #[.val (.int x0), .val (.int x1), .val (.int x2), .val (.int x3), .val (.int x4), .val (.int kd), .val (.int j1), .val (.int c1), .val (.int c2), .val (.int c3), .val (.int pp), .val (.ref b2), .unset, .unset, .unset] [(.int kd)])) (fun _ zk => XS.iload X2.here hx rfl (hb hby at_267) rfl zk) ?_
              refine Go.st (T' := T2) (g' := (mkF m 271 #[.val (.int x0), .val (.int x1), .val (.int x2), .val (.int x3), .val (.int x4), .val (.int kd), .val (.int j1), .val (.int c1), .val (.int c2), .val (.int c3), .val (.int pp), .val (.ref b2), .unset, .unset, .unset] [(.int (6 : Int32)), (.int kd)])) (fun _ zk => XS.bipush X2.here hx rfl (hb hby at_269) zk) ?_
              by_cases hc271 : kd = (6 : Int32)
              · refine Go.st (T' := T2) (g' := (mkF m 274 #[.val (.int x0), .val (.int x1), .val (.int x2), .val (.int x3), .val (.int x4), .val (.int kd), .val (.int j1), .val (.int c1), .val (.int c2), .val (.int c3), .val (.int pp), .val (.ref b2), .unset, .unset, .unset] [])) (fun _ zk => XS.icmpNo X2.here hx rfl (hb hby at_271) rfl (teq hc271).2 zk) ?_
                refine Go.st (T' := T2) (g' := (mkF m 275 #[.val (.int x0), .val (.int x1), .val (.int x2), .val (.int x3), .val (.int x4), .val (.int kd), .val (.int j1), .val (.int c1), .val (.int c2), .val (.int c3), .val (.int pp), .val (.ref b2), .unset, .unset, .unset] [(.int (3 : Int32))])) (fun _ zk => XS.iconst X2.here hx rfl (hb hby at_274) zk) ?_
                refine Go.st (T' := T2) (g' := (mkF m 277 #[.val (.int x0), .val (.int x1), .val (.int x2), .val (.int x3), .val (.int x4), .val (.int kd), .val (.int j1), .val (.int c1), .val (.int c2), .val (.int c3), .val (.int pp), .val (.ref b2), .val (.int (3 : Int32)), .unset, .unset] [])) (fun _ zk => XS.istore X2.here hx rfl (hb hby at_275) rfl (l' := #[.val (.int x0), .val (.int x1), .val (.int x2), .val (.int x3), .val (.int x4), .val (.int kd), .val (.int j1), .val (.int c1), .val (.int c2), .val (.int c3), .val (.int pp), .val (.ref b2), .val (.int (3 : Int32)), .unset, .unset]) rfl zk) ?_
                refine Go.st (T' := T2) (g' := (mkF m 279 #[.val (.int x0), .val (.int x1), .val (.int x2), .val (.int x3), .val (.int x4), .val (.int kd), .val (.int j1), .val (.int c1), .val (.int c2), .val (.int c3), .val (.int pp), .val (.ref b2), .val (.int (3 : Int32)), .unset, .unset] [(.ref b2)])) (fun _ zk => XS.aload X2.here hx rfl (hb hby at_277) rfl rfl zk) ?_
                refine Go.st (T' := T2) (g' := (mkF m 280 #[.val (.int x0), .val (.int x1), .val (.int x2), .val (.int x3), .val (.int x4), .val (.int kd), .val (.int j1), .val (.int c1), .val (.int c2), .val (.int c3), .val (.int pp), .val (.ref b2), .val (.int (3 : Int32)), .unset, .unset] [(.int (0 : Int32)), (.ref b2)])) (fun _ zk => XS.iconst X2.here hx rfl (hb hby at_279) zk) ?_
                refine Go.st (T' := T2) (g' := (mkF m 282 #[.val (.int x0), .val (.int x1), .val (.int x2), .val (.int x3), .val (.int x4), .val (.int kd), .val (.int j1), .val (.int c1), .val (.int c2), .val (.int c3), .val (.int pp), .val (.ref b2), .val (.int (3 : Int32)), .unset, .unset] [(.int (45 : Int32)), (.int (0 : Int32)), (.ref b2)])) (fun _ zk => XS.bipush X2.here hx rfl (hb hby at_280) zk) ?_
                obtain ⟨T85, h85, X85, e85, W85, V85, st85⟩ := stCV X2 hx hZ e2 V2 (j := (0 : Int32)) (i := 0) (by decide) rfl (Nat.le_of_ble_eq_true rfl) (g := (mkF m 282 #[.val (.int x0), .val (.int x1), .val (.int x2), .val (.int x3), .val (.int x4), .val (.int kd), .val (.int j1), .val (.int c1), .val (.int c2), .val (.int c3), .val (.int pp), .val (.ref b2), .val (.int (3 : Int32)), .unset, .unset] [(.int (45 : Int32)), (.int (0 : Int32)), (.ref b2)])) rfl rfl (hb hby at_282)
                rw [show nar .char (45 : Int32) = (45 : Int32) from by decide] at V85
                have V85' : Arv Z h85 b2 k2 .char (10 : Int32) [(.int (45 : Int32)), (.int (0 : Int32)), (.int (0 : Int32)), (.int (0 : Int32)), (.int (0 : Int32)), (.int (0 : Int32)), (.int (0 : Int32)), (.int (0 : Int32)), (.int (0 : Int32)), (.int (0 : Int32))] (.int (0 : Int32)) := V85
                have N85 := Fr.snoc X85 N0 (Nat.le_trans Z0 (Nat.le_trans (Nat.le_refl _) (Nat.le_of_eq g2.symm)))
                refine Go.st (T' := T85) (g' := (mkF m 283 #[.val (.int x0), .val (.int x1), .val (.int x2), .val (.int x3), .val (.int x4), .val (.int kd), .val (.int j1), .val (.int c1), .val (.int c2), .val (.int c3), .val (.int pp), .val (.ref b2), .val (.int (3 : Int32)), .unset, .unset] [])) (fun _ zk => st85 _ zk) ?_
                refine Go.st (T' := T85) (g' := (mkF m 285 #[.val (.int x0), .val (.int x1), .val (.int x2), .val (.int x3), .val (.int x4), .val (.int kd), .val (.int j1), .val (.int c1), .val (.int c2), .val (.int c3), .val (.int pp), .val (.ref b2), .val (.int (3 : Int32)), .unset, .unset] [(.ref b2)])) (fun _ zk => XS.aload X85.here hx rfl (hb hby at_283) rfl rfl zk) ?_
                refine Go.st (T' := T85) (g' := (mkF m 286 #[.val (.int x0), .val (.int x1), .val (.int x2), .val (.int x3), .val (.int x4), .val (.int kd), .val (.int j1), .val (.int c1), .val (.int c2), .val (.int c3), .val (.int pp), .val (.ref b2), .val (.int (3 : Int32)), .unset, .unset] [(.int (1 : Int32)), (.ref b2)])) (fun _ zk => XS.iconst X85.here hx rfl (hb hby at_285) zk) ?_
                refine Go.st (T' := T85) (g' := (mkF m 288 #[.val (.int x0), .val (.int x1), .val (.int x2), .val (.int x3), .val (.int x4), .val (.int kd), .val (.int j1), .val (.int c1), .val (.int c2), .val (.int c3), .val (.int pp), .val (.ref b2), .val (.int (3 : Int32)), .unset, .unset] [(.int c1), (.int (1 : Int32)), (.ref b2)])) (fun _ zk => XS.iload X85.here hx rfl (hb hby at_286) rfl zk) ?_
                obtain ⟨T86, h86, X86, e86, W86, V86, st86⟩ := stCV X85 hx hZ e85 V85' (j := (1 : Int32)) (i := 1) (by decide) rfl (Nat.le_of_ble_eq_true rfl) (g := (mkF m 288 #[.val (.int x0), .val (.int x1), .val (.int x2), .val (.int x3), .val (.int x4), .val (.int kd), .val (.int j1), .val (.int c1), .val (.int c2), .val (.int c3), .val (.int pp), .val (.ref b2), .val (.int (3 : Int32)), .unset, .unset] [(.int c1), (.int (1 : Int32)), (.ref b2)])) rfl rfl (hb hby at_288)
                rw [nar_cid (x := c1) qc1] at V86
                have V86' : Arv Z h86 b2 k2 .char (10 : Int32) [(.int (45 : Int32)), (.int c1), (.int (0 : Int32)), (.int (0 : Int32)), (.int (0 : Int32)), (.int (0 : Int32)), (.int (0 : Int32)), (.int (0 : Int32)), (.int (0 : Int32)), (.int (0 : Int32))] (.int (0 : Int32)) := V86
                have N86 := Fr.snoc X86 N85 (Nat.le_trans Z0 (Nat.le_trans (Nat.le_refl _) (Nat.le_of_eq g2.symm)))
                refine Go.st (T' := T86) (g' := (mkF m 289 #[.val (.int x0), .val (.int x1), .val (.int x2), .val (.int x3), .val (.int x4), .val (.int kd), .val (.int j1), .val (.int c1), .val (.int c2), .val (.int c3), .val (.int pp), .val (.ref b2), .val (.int (3 : Int32)), .unset, .unset] [])) (fun _ zk => st86 _ zk) ?_
                refine Go.st (T' := T86) (g' := (mkF m 291 #[.val (.int x0), .val (.int x1), .val (.int x2), .val (.int x3), .val (.int x4), .val (.int kd), .val (.int j1), .val (.int c1), .val (.int c2), .val (.int c3), .val (.int pp), .val (.ref b2), .val (.int (3 : Int32)), .unset, .unset] [(.ref b2)])) (fun _ zk => XS.aload X86.here hx rfl (hb hby at_289) rfl rfl zk) ?_
                refine Go.st (T' := T86) (g' := (mkF m 292 #[.val (.int x0), .val (.int x1), .val (.int x2), .val (.int x3), .val (.int x4), .val (.int kd), .val (.int j1), .val (.int c1), .val (.int c2), .val (.int c3), .val (.int pp), .val (.ref b2), .val (.int (3 : Int32)), .unset, .unset] [(.int (2 : Int32)), (.ref b2)])) (fun _ zk => XS.iconst X86.here hx rfl (hb hby at_291) zk) ?_
                refine Go.st (T' := T86) (g' := (mkF m 294 #[.val (.int x0), .val (.int x1), .val (.int x2), .val (.int x3), .val (.int x4), .val (.int kd), .val (.int j1), .val (.int c1), .val (.int c2), .val (.int c3), .val (.int pp), .val (.ref b2), .val (.int (3 : Int32)), .unset, .unset] [(.int c2), (.int (2 : Int32)), (.ref b2)])) (fun _ zk => XS.iload X86.here hx rfl (hb hby at_292) rfl zk) ?_
                obtain ⟨T87, h87, X87, e87, W87, V87, st87⟩ := stCV X86 hx hZ e86 V86' (j := (2 : Int32)) (i := 2) (by decide) rfl (Nat.le_of_ble_eq_true rfl) (g := (mkF m 294 #[.val (.int x0), .val (.int x1), .val (.int x2), .val (.int x3), .val (.int x4), .val (.int kd), .val (.int j1), .val (.int c1), .val (.int c2), .val (.int c3), .val (.int pp), .val (.ref b2), .val (.int (3 : Int32)), .unset, .unset] [(.int c2), (.int (2 : Int32)), (.ref b2)])) rfl rfl (hb hby at_294)
                rw [nar_cid (x := c2) qc2] at V87
                have V87' : Arv Z h87 b2 k2 .char (10 : Int32) [(.int (45 : Int32)), (.int c1), (.int c2), (.int (0 : Int32)), (.int (0 : Int32)), (.int (0 : Int32)), (.int (0 : Int32)), (.int (0 : Int32)), (.int (0 : Int32)), (.int (0 : Int32))] (.int (0 : Int32)) := V87
                have N87 := Fr.snoc X87 N86 (Nat.le_trans Z0 (Nat.le_trans (Nat.le_refl _) (Nat.le_of_eq g2.symm)))
                refine Go.st (T' := T87) (g' := (mkF m 295 #[.val (.int x0), .val (.int x1), .val (.int x2), .val (.int x3), .val (.int x4), .val (.int kd), .val (.int j1), .val (.int c1), .val (.int c2), .val (.int c3), .val (.int pp), .val (.ref b2), .val (.int (3 : Int32)), .unset, .unset] [])) (fun _ zk => st87 _ zk) ?_
                refine Go.st (T' := T87) (g' := (mkF m 323 #[.val (.int x0), .val (.int x1), .val (.int x2), .val (.int x3), .val (.int x4), .val (.int kd), .val (.int j1), .val (.int c1), .val (.int c2), .val (.int c3), .val (.int pp), .val (.ref b2), .val (.int (3 : Int32)), .unset, .unset] [])) (fun _ zk => XS.goto X87.here hx rfl (pc0 := 295) (pc' := 323) rfl (hb hby at_295) (by decide) (by decide) zk) ?_
                have hrl : ∀ c ∈ ([(45 : Int32), c1, c2, (0 : Int32), (0 : Int32), (0 : Int32), (0 : Int32), (0 : Int32), (0 : Int32), (0 : Int32)] : List Int32), 0 ≤ c.toInt ∧ c.toInt < 65536 := by
                  simp only [List.forall_mem_cons]
                  exact ⟨(by decide), qc1, qc2, (by decide), (by decide), (by decide), (by decide), (by decide), (by decide), (by decide), fun _ q => nomatch q⟩
                have xt88 : Ext h0 h87 := (((E2.thenW W85 (Nat.le_of_eq g2.symm)).thenW W86 (Nat.le_of_eq g2.symm)).thenW W87 (Nat.le_of_eq g2.symm))
                exact tail _ _ _ ([(45 : Int32), c1, c2, (0 : Int32), (0 : Int32), (0 : Int32), (0 : Int32), (0 : Int32), (0 : Int32), (0 : Int32)]) _ X87 e87 N87 xt88 V87' rfl hrl
              · refine Go.st (T' := T2) (g' := (mkF m 298 #[.val (.int x0), .val (.int x1), .val (.int x2), .val (.int x3), .val (.int x4), .val (.int kd), .val (.int j1), .val (.int c1), .val (.int c2), .val (.int c3), .val (.int pp), .val (.ref b2), .unset, .unset, .unset] [])) (fun _ zk => XS.icmpYes X2.here hx rfl (pc0 := 271) (pc' := 298) rfl (hb hby at_271) rfl (feq hc271).2 (by decide) (by decide) zk) ?_
                refine Go.st (T' := T2) (g' := (mkF m 299 #[.val (.int x0), .val (.int x1), .val (.int x2), .val (.int x3), .val (.int x4), .val (.int kd), .val (.int j1), .val (.int c1), .val (.int c2), .val (.int c3), .val (.int pp), .val (.ref b2), .unset, .unset, .unset] [(.int (2 : Int32))])) (fun _ zk => XS.iconst X2.here hx rfl (hb hby at_298) zk) ?_
                refine Go.st (T' := T2) (g' := (mkF m 301 #[.val (.int x0), .val (.int x1), .val (.int x2), .val (.int x3), .val (.int x4), .val (.int kd), .val (.int j1), .val (.int c1), .val (.int c2), .val (.int c3), .val (.int pp), .val (.ref b2), .val (.int (2 : Int32)), .unset, .unset] [])) (fun _ zk => XS.istore X2.here hx rfl (hb hby at_299) rfl (l' := #[.val (.int x0), .val (.int x1), .val (.int x2), .val (.int x3), .val (.int x4), .val (.int kd), .val (.int j1), .val (.int c1), .val (.int c2), .val (.int c3), .val (.int pp), .val (.ref b2), .val (.int (2 : Int32)), .unset, .unset]) rfl zk) ?_
                refine Go.st (T' := T2) (g' := (mkF m 303 #[.val (.int x0), .val (.int x1), .val (.int x2), .val (.int x3), .val (.int x4), .val (.int kd), .val (.int j1), .val (.int c1), .val (.int c2), .val (.int c3), .val (.int pp), .val (.ref b2), .val (.int (2 : Int32)), .unset, .unset] [(.ref b2)])) (fun _ zk => XS.aload X2.here hx rfl (hb hby at_301) rfl rfl zk) ?_
                refine Go.st (T' := T2) (g' := (mkF m 304 #[.val (.int x0), .val (.int x1), .val (.int x2), .val (.int x3), .val (.int x4), .val (.int kd), .val (.int j1), .val (.int c1), .val (.int c2), .val (.int c3), .val (.int pp), .val (.ref b2), .val (.int (2 : Int32)), .unset, .unset] [(.int (0 : Int32)), (.ref b2)])) (fun _ zk => XS.iconst X2.here hx rfl (hb hby at_303) zk) ?_
                refine Go.st (T' := T2) (g' := (mkF m 306 #[.val (.int x0), .val (.int x1), .val (.int x2), .val (.int x3), .val (.int x4), .val (.int kd), .val (.int j1), .val (.int c1), .val (.int c2), .val (.int c3), .val (.int pp), .val (.ref b2), .val (.int (2 : Int32)), .unset, .unset] [(.int c1), (.int (0 : Int32)), (.ref b2)])) (fun _ zk => XS.iload X2.here hx rfl (hb hby at_304) rfl zk) ?_
                obtain ⟨T89, h89, X89, e89, W89, V89, st89⟩ := stCV X2 hx hZ e2 V2 (j := (0 : Int32)) (i := 0) (by decide) rfl (Nat.le_of_ble_eq_true rfl) (g := (mkF m 306 #[.val (.int x0), .val (.int x1), .val (.int x2), .val (.int x3), .val (.int x4), .val (.int kd), .val (.int j1), .val (.int c1), .val (.int c2), .val (.int c3), .val (.int pp), .val (.ref b2), .val (.int (2 : Int32)), .unset, .unset] [(.int c1), (.int (0 : Int32)), (.ref b2)])) rfl rfl (hb hby at_306)
                rw [nar_cid (x := c1) qc1] at V89
                have V89' : Arv Z h89 b2 k2 .char (10 : Int32) [(.int c1), (.int (0 : Int32)), (.int (0 : Int32)), (.int (0 : Int32)), (.int (0 : Int32)), (.int (0 : Int32)), (.int (0 : Int32)), (.int (0 : Int32)), (.int (0 : Int32)), (.int (0 : Int32))] (.int (0 : Int32)) := V89
                have N89 := Fr.snoc X89 N0 (Nat.le_trans Z0 (Nat.le_trans (Nat.le_refl _) (Nat.le_of_eq g2.symm)))
                refine Go.st (T' := T89) (g' := (mkF m 307 #[.val (.int x0), .val (.int x1), .val (.int x2), .val (.int x3), .val (.int x4), .val (.int kd), .val (.int j1), .val (.int c1), .val (.int c2), .val (.int c3), .val (.int pp), .val (.ref b2), .val (.int (2 : Int32)), .unset, .unset] [])) (fun _ zk => st89 _ zk) ?_
                refine Go.st (T' := T89) (g' := (mkF m 309 #[.val (.int x0), .val (.int x1), .val (.int x2), .val (.int x3), .val (.int x4), .val (.int kd), .val (.int j1), .val (.int c1), .val (.int c2), .val (.int c3), .val (.int pp), .val (.ref b2), .val (.int (2 : Int32)), .unset, .unset] [(.ref b2)])) (fun _ zk => XS.aload X89.here hx rfl (hb hby at_307) rfl rfl zk) ?_
                refine Go.st (T' := T89) (g' := (mkF m 310 #[.val (.int x0), .val (.int x1), .val (.int x2), .val (.int x3), .val (.int x4), .val (.int kd), .val (.int j1), .val (.int c1), .val (.int c2), .val (.int c3), .val (.int pp), .val (.ref b2), .val (.int (2 : Int32)), .unset, .unset] [(.int (1 : Int32)), (.ref b2)])) (fun _ zk => XS.iconst X89.here hx rfl (hb hby at_309) zk) ?_
                refine Go.st (T' := T89) (g' := (mkF m 312 #[.val (.int x0), .val (.int x1), .val (.int x2), .val (.int x3), .val (.int x4), .val (.int kd), .val (.int j1), .val (.int c1), .val (.int c2), .val (.int c3), .val (.int pp), .val (.ref b2), .val (.int (2 : Int32)), .unset, .unset] [(.int j1), (.int (1 : Int32)), (.ref b2)])) (fun _ zk => XS.iload X89.here hx rfl (hb hby at_310) rfl zk) ?_
                by_cases hc312 : j1 = (0 : Int32)
                · refine Go.st (T' := T89) (g' := (mkF m 320 #[.val (.int x0), .val (.int x1), .val (.int x2), .val (.int x3), .val (.int x4), .val (.int kd), .val (.int j1), .val (.int c1), .val (.int c2), .val (.int c3), .val (.int pp), .val (.ref b2), .val (.int (2 : Int32)), .unset, .unset] [(.int (1 : Int32)), (.ref b2)])) (fun _ zk => XS.ifYes X89.here hx rfl (pc0 := 312) (pc' := 320) rfl (hb hby at_312) rfl ((if0 _ _).trans (teq hc312).1) (by decide) (by decide) zk) ?_
                  refine Go.st (T' := T89) (g' := (mkF m 322 #[.val (.int x0), .val (.int x1), .val (.int x2), .val (.int x3), .val (.int x4), .val (.int kd), .val (.int j1), .val (.int c1), .val (.int c2), .val (.int c3), .val (.int pp), .val (.ref b2), .val (.int (2 : Int32)), .unset, .unset] [(.int (86 : Int32)), (.int (1 : Int32)), (.ref b2)])) (fun _ zk => XS.bipush X89.here hx rfl (hb hby at_320) zk) ?_
                  obtain ⟨T90, h90, X90, e90, W90, V90, st90⟩ := stCV X89 hx hZ e89 V89' (j := (1 : Int32)) (i := 1) (by decide) rfl (Nat.le_of_ble_eq_true rfl) (g := (mkF m 322 #[.val (.int x0), .val (.int x1), .val (.int x2), .val (.int x3), .val (.int x4), .val (.int kd), .val (.int j1), .val (.int c1), .val (.int c2), .val (.int c3), .val (.int pp), .val (.ref b2), .val (.int (2 : Int32)), .unset, .unset] [(.int (86 : Int32)), (.int (1 : Int32)), (.ref b2)])) rfl rfl (hb hby at_322)
                  rw [show nar .char (86 : Int32) = (86 : Int32) from by decide] at V90
                  have V90' : Arv Z h90 b2 k2 .char (10 : Int32) [(.int c1), (.int (86 : Int32)), (.int (0 : Int32)), (.int (0 : Int32)), (.int (0 : Int32)), (.int (0 : Int32)), (.int (0 : Int32)), (.int (0 : Int32)), (.int (0 : Int32)), (.int (0 : Int32))] (.int (0 : Int32)) := V90
                  have N90 := Fr.snoc X90 N89 (Nat.le_trans Z0 (Nat.le_trans (Nat.le_refl _) (Nat.le_of_eq g2.symm)))
                  refine Go.st (T' := T90) (g' := (mkF m 323 #[.val (.int x0), .val (.int x1), .val (.int x2), .val (.int x3), .val (.int x4), .val (.int kd), .val (.int j1), .val (.int c1), .val (.int c2), .val (.int c3), .val (.int pp), .val (.ref b2), .val (.int (2 : Int32)), .unset, .unset] [])) (fun _ zk => st90 _ zk) ?_
                  have hrl : ∀ c ∈ ([c1, (86 : Int32), (0 : Int32), (0 : Int32), (0 : Int32), (0 : Int32), (0 : Int32), (0 : Int32), (0 : Int32), (0 : Int32)] : List Int32), 0 ≤ c.toInt ∧ c.toInt < 65536 := by
                    simp only [List.forall_mem_cons]
                    exact ⟨qc1, (by decide), (by decide), (by decide), (by decide), (by decide), (by decide), (by decide), (by decide), (by decide), fun _ q => nomatch q⟩
                  have xt91 : Ext h0 h90 := ((E2.thenW W89 (Nat.le_of_eq g2.symm)).thenW W90 (Nat.le_of_eq g2.symm))
                  exact tail _ _ _ ([c1, (86 : Int32), (0 : Int32), (0 : Int32), (0 : Int32), (0 : Int32), (0 : Int32), (0 : Int32), (0 : Int32), (0 : Int32)]) _ X90 e90 N90 xt91 V90' rfl hrl
                · refine Go.st (T' := T89) (g' := (mkF m 315 #[.val (.int x0), .val (.int x1), .val (.int x2), .val (.int x3), .val (.int x4), .val (.int kd), .val (.int j1), .val (.int c1), .val (.int c2), .val (.int c3), .val (.int pp), .val (.ref b2), .val (.int (2 : Int32)), .unset, .unset] [(.int (1 : Int32)), (.ref b2)])) (fun _ zk => XS.ifNo X89.here hx rfl (hb hby at_312) rfl ((if0 _ _).trans (feq hc312).1) zk) ?_
                  refine Go.st (T' := T89) (g' := (mkF m 317 #[.val (.int x0), .val (.int x1), .val (.int x2), .val (.int x3), .val (.int x4), .val (.int kd), .val (.int j1), .val (.int c1), .val (.int c2), .val (.int c3), .val (.int pp), .val (.ref b2), .val (.int (2 : Int32)), .unset, .unset] [(.int (104 : Int32)), (.int (1 : Int32)), (.ref b2)])) (fun _ zk => XS.bipush X89.here hx rfl (hb hby at_315) zk) ?_
                  refine Go.st (T' := T89) (g' := (mkF m 322 #[.val (.int x0), .val (.int x1), .val (.int x2), .val (.int x3), .val (.int x4), .val (.int kd), .val (.int j1), .val (.int c1), .val (.int c2), .val (.int c3), .val (.int pp), .val (.ref b2), .val (.int (2 : Int32)), .unset, .unset] [(.int (104 : Int32)), (.int (1 : Int32)), (.ref b2)])) (fun _ zk => XS.goto X89.here hx rfl (pc0 := 317) (pc' := 322) rfl (hb hby at_317) (by decide) (by decide) zk) ?_
                  obtain ⟨T92, h92, X92, e92, W92, V92, st92⟩ := stCV X89 hx hZ e89 V89' (j := (1 : Int32)) (i := 1) (by decide) rfl (Nat.le_of_ble_eq_true rfl) (g := (mkF m 322 #[.val (.int x0), .val (.int x1), .val (.int x2), .val (.int x3), .val (.int x4), .val (.int kd), .val (.int j1), .val (.int c1), .val (.int c2), .val (.int c3), .val (.int pp), .val (.ref b2), .val (.int (2 : Int32)), .unset, .unset] [(.int (104 : Int32)), (.int (1 : Int32)), (.ref b2)])) rfl rfl (hb hby at_322)
                  rw [show nar .char (104 : Int32) = (104 : Int32) from by decide] at V92
                  have V92' : Arv Z h92 b2 k2 .char (10 : Int32) [(.int c1), (.int (104 : Int32)), (.int (0 : Int32)), (.int (0 : Int32)), (.int (0 : Int32)), (.int (0 : Int32)), (.int (0 : Int32)), (.int (0 : Int32)), (.int (0 : Int32)), (.int (0 : Int32))] (.int (0 : Int32)) := V92
                  have N92 := Fr.snoc X92 N89 (Nat.le_trans Z0 (Nat.le_trans (Nat.le_refl _) (Nat.le_of_eq g2.symm)))
                  refine Go.st (T' := T92) (g' := (mkF m 323 #[.val (.int x0), .val (.int x1), .val (.int x2), .val (.int x3), .val (.int x4), .val (.int kd), .val (.int j1), .val (.int c1), .val (.int c2), .val (.int c3), .val (.int pp), .val (.ref b2), .val (.int (2 : Int32)), .unset, .unset] [])) (fun _ zk => st92 _ zk) ?_
                  have hrl : ∀ c ∈ ([c1, (104 : Int32), (0 : Int32), (0 : Int32), (0 : Int32), (0 : Int32), (0 : Int32), (0 : Int32), (0 : Int32), (0 : Int32)] : List Int32), 0 ≤ c.toInt ∧ c.toInt < 65536 := by
                    simp only [List.forall_mem_cons]
                    exact ⟨qc1, (by decide), (by decide), (by decide), (by decide), (by decide), (by decide), (by decide), (by decide), (by decide), fun _ q => nomatch q⟩
                  have xt93 : Ext h0 h92 := ((E2.thenW W89 (Nat.le_of_eq g2.symm)).thenW W92 (Nat.le_of_eq g2.symm))
                  exact tail _ _ _ ([c1, (104 : Int32), (0 : Int32), (0 : Int32), (0 : Int32), (0 : Int32), (0 : Int32), (0 : Int32), (0 : Int32), (0 : Int32)]) _ X92 e92 N92 xt93 V92' rfl hrl
theorem w51 {a0 : Array Value} {Z : State} (hw : ∀ d ∈ tables_1, d.before a0 Z = true) : ((Jvm.Cond.laysStatic "com/example/tierbook/tierbook/cli/Flag" "$VALUES" "[Lcom/example/tierbook/tierbook/cli/Flag;")).before a0 Z = true := hw _ (List.mem_of_getElem? (i := 51) rfl)
theorem w59 {a0 : Array Value} {Z : State} (hw : ∀ d ∈ tables_1, d.before a0 Z = true) : ((Jvm.Cond.laysStatic "com/example/tierbook/tierbook/cli/Flag" "HELP" "Lcom/example/tierbook/tierbook/cli/Flag;")).before a0 Z = true := hw _ (List.mem_of_getElem? (i := 59) rfl)
theorem w60 {a0 : Array Value} {Z : State} (hw : ∀ d ∈ tables_1, d.before a0 Z = true) : ((Jvm.Cond.laysStatic "com/example/tierbook/tierbook/cli/Flag" "VERSION" "Lcom/example/tierbook/tierbook/cli/Flag;")).before a0 Z = true := hw _ (List.mem_of_getElem? (i := 60) rfl)
set_option maxRecDepth 65536 in
set_option maxHeartbeats 40000000 in
theorem comes_1 {Post : Tables → Env → Array Value → State → Outcome → State → Prop} (hpost : ∀ tb e args s v u, (limb_1_1.after args s (.returned v) u = true ∧ limb_1_2.after args s (.returned v) u = true ∧ True) → ReturnedEndW s (.returned v) u (Jvm.fieldLocs frame_1_writes args s ++ Jvm.arrayLocs frame_1_arrays args s ++ Jvm.staticLocs frame_1_statics s) 32 5376 → Post tb e args s (.returned v) u) :
    ArmFor flags0 classFile x code maxLocals ret World_1 tables_1 room_1 Calls_1 rest_1 Pre_1 Post := by
  intro l hfl _ _ p e ha hc hk s m args below hf hA hF happ hP
  obtain ⟨hcalls, hrest, hpre⟩ := hP
  obtain ⟨-, -, -, hnamed, -, -, -, hat⟩ := (Spec.applies_iff hf).mp happ
  obtain ⟨hg, hn⟩ := and_e (Cond.before_iff.mp (show (Jvm.Cond.and given_1 narrow_1).before args s = true from hpre))
  obtain ⟨g0a, g0b⟩ := and_e hg
  obtain ⟨g1a, g1b⟩ := and_e g0b
  obtain ⟨g2a, g2b⟩ := and_e g1b
  obtain ⟨g3a, g3b⟩ := and_e g2b
  obtain ⟨g4a, g4b⟩ := and_e g3b
  obtain ⟨w0', w1', w2', w3', w4', rfl⟩ : ∃ w0' w1' w2' w3' w4' : Value, args = #[w0', w1', w2', w3', w4'] := by
    have hs : args.size = 5 := by simpa [Cond.value, given_1] using g0a
    obtain ⟨L⟩ := args
    match L, hs with
    | [w0', w1', w2', w3', w4'], _ => exact ⟨w0', w1', w2', w3', w4', rfl⟩
  have hw := fun d (hd : d ∈ tables_1) => atoms_spec (ws := Jvm.Cond.code x code maxLocals ret :: tables_1) hat d (List.mem_cons_of_mem _ hd)
  have hfit : Fit s := fun {y c} hc i hi => by
    obtain ⟨ha, rfl⟩ := Array.getElem?_eq_some_iff.mp hc
    have q := List.all_eq_true.mp ((Array.all_eq_true_iff_forall_mem.mp hF) _ (Array.getElem_mem ha)) i (List.mem_range.mpr hi)
    simpa [Array.getElem?_eq_getElem hi] using q
  obtain ⟨i0, ei0⟩ := is_v g1a
  obtain rfl : w0' = (.int i0) := Option.some.inj ei0
  obtain ⟨i1, ei1⟩ := is_v g2a
  obtain rfl : w1' = (.int i1) := Option.some.inj ei1
  obtain ⟨i2, ei2⟩ := is_v g3a
  obtain rfl : w2' = (.int i2) := Option.some.inj ei2
  obtain ⟨i3, ei3⟩ := is_v g4a
  obtain rfl : w3' = (.int i3) := Option.some.inj ei3
  obtain ⟨i4, ei4⟩ := is_v g4b
  obtain rfl : w4' = (.int i4) := Option.some.inj ei4
  obtain ⟨c0a, c0b⟩ := and_e hn
  obtain ⟨c1a, c1b⟩ := and_e c0b
  obtain ⟨c2a, c2b⟩ := and_e c1b
  obtain ⟨c3a, c3b⟩ := and_e c2b
  obtain ⟨c4a, c4b⟩ := and_e c3b
  obtain ⟨c5a, c5b⟩ := and_e c4b
  obtain ⟨c6a, c6b⟩ := and_e c5b
  obtain ⟨c7a, c7b⟩ := and_e c6b
  obtain ⟨c8a, c8b⟩ := and_e c7b
  obtain ⟨c9a, c9b⟩ := and_e c8b
  obtain ⟨c10a, c10b⟩ := and_e c9b
  obtain ⟨c11a, c11b⟩ := and_e c10b
  obtain ⟨c12a, c12b⟩ := and_e c11b
  obtain ⟨c13a, c13b⟩ := and_e c12b
  obtain ⟨c14a, c14b⟩ := and_e c13b
  obtain ⟨c15a, c15b⟩ := and_e c14b
  obtain ⟨c16a, c16b⟩ := and_e c15b
  obtain ⟨c17a, c17b⟩ := and_e c16b
  obtain ⟨c18a, c18b⟩ := and_e c17b
  obtain ⟨c19a, c19b⟩ := and_e c18b
  obtain ⟨c20a, c20b⟩ := and_e c19b
  obtain ⟨c21a, c21b⟩ := and_e c20b
  obtain ⟨c22a, c22b⟩ := and_e c21b
  obtain ⟨c23a, c23b⟩ := and_e c22b
  obtain ⟨c24a, c24b⟩ := and_e c23b
  obtain ⟨c25a, c25b⟩ := and_e c24b
  obtain ⟨c26a, c26b⟩ := and_e c25b
  obtain ⟨c27a, c27b⟩ := and_e c26b
  obtain ⟨c28a, c28b⟩ := and_e c27b
  obtain ⟨c29a, c29b⟩ := and_e c28b
  obtain ⟨c30a, c30b⟩ := and_e c29b
  obtain ⟨sa0, ev0⟩ := exa_v c1a
  have sE0 : Exa s s.heap sa0 "[Lcom/example/tierbook/tierbook/cli/Flag;" := Exa.start ev0 c1a
  have sS0 : Sta s s.heap "com/example/tierbook/tierbook/cli/Flag" "$VALUES" "[Lcom/example/tierbook/tierbook/cli/Flag;" (.ref sa0) := Sta.start ev0 (Or.inr ⟨(w45 hw), (w51 hw)⟩)
  obtain ⟨sa1, ev1⟩ := exa_v c3a
  have sE1 : Exa s s.heap sa1 "com/example/tierbook/tierbook/cli/Flag" := Exa.start ev1 c3a
  have sS1 : Sta s s.heap "com/example/tierbook/tierbook/cli/Flag" "HELP" "Lcom/example/tierbook/tierbook/cli/Flag;" (.ref sa1) := Sta.start ev1 (Or.inr ⟨(w45 hw), (w59 hw)⟩)
  obtain ⟨sa2, ev2⟩ := exa_v c5a
  have sE2 : Exa s s.heap sa2 "com/example/tierbook/tierbook/cli/Flag" := Exa.start ev2 c5a
  have sS2 : Sta s s.heap "com/example/tierbook/tierbook/cli/Flag" "VERSION" "Lcom/example/tierbook/tierbook/cli/Flag;" (.ref sa2) := Sta.start ev2 (Or.inr ⟨(w45 hw), (w60 hw)⟩)
  have sF0 : Fld s s.heap sa1 "com/example/tierbook/tierbook/cli/Flag" "letter" "C" (.int (104 : Int32)) := Fld.start ((fld_at ev1).symm.trans (eqv_i rfl c15a))
  have sF1 : Fld s s.heap sa2 "com/example/tierbook/tierbook/cli/Flag" "letter" "C" (.int (86 : Int32)) := Fld.start ((fld_at ev2).symm.trans (eqv_i rfl c16a))
  obtain ⟨kV, FV⟩ := Arv.startL (dv := .null) (vs := [.ref sa1, .ref sa2]) hfit ev0 c0a c2a (by decide) rfl (fun c hc => ⟨(elem_in (eqv_r ev1 c4a) ev0 rfl hc).2, (elem_in (eqv_r ev2 c6a) ev0 rfl hc).2, trivial⟩)
  obtain ⟨nH, enH⟩ := exa_v c7a
  have nEH : Exa s s.heap nH "java/lang/String" := Exa.start enH c7a
  have NH : Fld s s.heap sa1 "com/example/tierbook/tierbook/cli/Flag" "name" "Ljava/lang/String;" (.ref nH) := Fld.start ((fld_at ev1).symm.trans enH)
  have nCH : Fld s s.heap nH "java/lang/String" "coder" "B" (.int (0 : Int32)) := Fld.start ((fld_at enH).symm.trans (eqv_i rfl c8a))
  obtain ⟨tH, etH⟩ := arr_v c9a
  have nFH : Fld s s.heap nH "java/lang/String" "value" "[B" (.ref tH) := Fld.start ((fld_at enH).symm.trans etH)
  obtain ⟨kbH, nVH⟩ := Arv.startL (dv := (.int (0 : Int32))) (vs := [(.int (45 : Int32)), (.int (45 : Int32)), (.int (104 : Int32)), (.int (101 : Int32)), (.int (108 : Int32)), (.int (112 : Int32))]) hfit etH c9a c10a (by decide) rfl (fun c hc => ⟨(elem_in (eqv_i rfl c17a) etH rfl hc).2, (elem_in (eqv_i rfl c18a) etH rfl hc).2, (elem_in (eqv_i rfl c19a) etH rfl hc).2, (elem_in (eqv_i rfl c20a) etH rfl hc).2, (elem_in (eqv_i rfl c21a) etH rfl hc).2, (elem_in (eqv_i rfl c22a) etH rfl hc).2, trivial⟩)
  have SHs : StrB s s.heap nH 0 [(45 : Int32), (45 : Int32), (104 : Int32), (101 : Int32), (108 : Int32), (112 : Int32)] := ⟨tH, kbH, nEH, nCH, nFH, nVH⟩
  obtain ⟨nV, enV⟩ := exa_v c11a
  have nEV : Exa s s.heap nV "java/lang/String" := Exa.start enV c11a
  have NV : Fld s s.heap sa2 "com/example/tierbook/tierbook/cli/Flag" "name" "Ljava/lang/String;" (.ref nV) := Fld.start ((fld_at ev2).symm.trans enV)
  have nCV : Fld s s.heap nV "java/lang/String" "coder" "B" (.int (0 : Int32)) := Fld.start ((fld_at enV).symm.trans (eqv_i rfl c12a))
  obtain ⟨tV, etV⟩ := arr_v c13a
  have nFV : Fld s s.heap nV "java/lang/String" "value" "[B" (.ref tV) := Fld.start ((fld_at enV).symm.trans etV)
  obtain ⟨kbV, nVV⟩ := Arv.startL (dv := (.int (0 : Int32))) (vs := [(.int (45 : Int32)), (.int (45 : Int32)), (.int (118 : Int32)), (.int (101 : Int32)), (.int (114 : Int32)), (.int (115 : Int32)), (.int (105 : Int32)), (.int (111 : Int32)), (.int (110 : Int32))]) hfit etV c13a c14a (by decide) rfl (fun c hc => ⟨(elem_in (eqv_i rfl c23a) etV rfl hc).2, (elem_in (eqv_i rfl c24a) etV rfl hc).2, (elem_in (eqv_i rfl c25a) etV rfl hc).2, (elem_in (eqv_i rfl c26a) etV rfl hc).2, (elem_in (eqv_i rfl c27a) etV rfl hc).2, (elem_in (eqv_i rfl c28a) etV rfl hc).2, (elem_in (eqv_i rfl c29a) etV rfl hc).2, (elem_in (eqv_i rfl c30a) etV rfl hc).2, (elem_in (eqv_i rfl c30b) etV rfl hc).2, trivial⟩)
  have SVs : StrB s s.heap nV 0 [(45 : Int32), (45 : Int32), (118 : Int32), (101 : Int32), (114 : Int32), (115 : Int32), (105 : Int32), (111 : Int32), (110 : Int32)] := ⟨tV, kbV, nEV, nCV, nFV, nVV⟩
  have hrest' : rest_1_c.before _ s = true := hrest
  have hR := Cond.before_iff.mp hrest'
  obtain ⟨r0a, r0b⟩ := and_e hR
  obtain ⟨r1a, r1b⟩ := and_e r0b
  obtain ⟨r2a, r2b⟩ := and_e r1b
  obtain ⟨r3a, r3b⟩ := and_e r2b
  obtain ⟨r4a, r4b⟩ := and_e r3b
  obtain ⟨r5a, r5b⟩ := and_e r4b
  obtain ⟨r6a, r6b⟩ := and_e r5b
  obtain ⟨r7a, r7b⟩ := and_e r6b
  obtain ⟨r8a, r8b⟩ := and_e r7b
  obtain ⟨r9a, r9b⟩ := and_e r8b
  obtain ⟨r10a, r10b⟩ := and_e r9b
  obtain ⟨r11a, r11b⟩ := and_e r10b
  obtain ⟨r12a, r12b⟩ := and_e r11b
  obtain ⟨r13a, r13b⟩ := and_e r12b
  obtain ⟨r14a, r14b⟩ := and_e r13b
  obtain ⟨r15a, r15b⟩ := and_e r14b
  obtain ⟨r16a, r16b⟩ := and_e r15b
  obtain ⟨r17a, r17b⟩ := and_e r16b
  obtain ⟨r18a, r18b⟩ := and_e r17b
  obtain ⟨zc, ezc⟩ := is_v r1a
  have CS : Sta s s.heap "java/lang/String" "COMPACT_STRINGS" "Z" (.int zc) := Sta.start ezc (Or.inl (Cond.before_iff.mpr r0a))
  have hz : ¬ zc = 0 := fun q => by
    have q1 := not_v r2a
    rw [eq_i ezc (Term.int_eval (0)) (by rw [q])] at q1
    cases q1
  obtain ⟨fm, efm, rf⟩ := isR_v r8a
  have FM : Sta s s.heap "jdk/internal/util/Preconditions" "SIOOBE_FORMATTER" "Ljava/util/function/BiFunction;" fm := Sta.start efm (Or.inl (Cond.before_iff.mpr r7a))
  have UA : Sta s s.heap "java/lang/StringUTF16" "$assertionsDisabled" "Z" (.int (1 : Int32)) := Sta.start (eqv_i rfl r12a) (Or.inl (Cond.before_iff.mpr r11a))
  have UH : Sta s s.heap "java/lang/StringUTF16" "HI_BYTE_SHIFT" "I" (.int (0 : Int32)) := Sta.start (eqv_i rfl r15a) (Or.inl (Cond.before_iff.mpr r14a))
  have UL : Sta s s.heap "java/lang/StringUTF16" "LO_BYTE_SHIFT" "I" (.int (8 : Int32)) := Sta.start (eqv_i rfl r18a) (Or.inl (Cond.before_iff.mpr r17a))
  have hcw : Jvm.Lit.compactW.before _ s = true := Cond.before_iff.mpr r2a
  have HCH : CHv s EL0 s.vm s.heap := CHv.start (hEL0 hw) (fun p hp => hcalls.1 p hp) hcw (w21 hw) (w8 hw)
  obtain ⟨n, o, h1, h2, h3, _, L, rfl, ⟨rfl, N⟩, -, hq⟩ := rm_law l s _ hw tables_1 i0 i1 i2 i3 i4 zc fm sa0 sa1 sa2 nH nV kV s.heap s.heap.size (Nat.le_refl _) (Old.start s) CS hz FM rf UA UH UL sS0 sE0 FV sF0 sF1 NH NV SHs SVs sS1 sS2 p e ha hc hk s m _ below hf ((Spec.applies_iff_loose hf).mp happ).1 ⟨rfl, State.Warmed39.refl s, rfl, HCH, fun _ q => nomatch q⟩ trivial
  exact ⟨n, _, h1, h2, h3, hpost _ _ _ _ _ _ ⟨Cond.after_iff.mpr rfl, Cond.after_iff.mpr (eq_i res_at (Term.int_eval (1)) rfl), trivial⟩ ⟨hq.1, hq.2.1, hq.2.2.1, (hq.2.2.2.sift fun y hy => Or.inr (N y hy)).mono (by decide) (by decide)⟩⟩
theorem main_1_1 : Claimed_1_1 := comes_1 fun _ _ _ _ _ _ h hF => ⟨h.1, hF⟩
theorem main_1_2 : Claimed_1_2 := comes_1 fun _ _ _ _ _ _ h hF => ⟨h.2.1, hF⟩
end Jvm.Pilot.@@N@@
namespace Jvm.Pilot.@@N@@
open Jvm Jvm.ClassFile Sem Op Lib Jvm.Free Jvm.Stand Jvm.Pilot.@@N@@.Jvm.D
/-! MADE BY PROGRAM (witnessworld.py) out of the Statement's table words and the real class files: 22 classes; the members and pool entries that the words name. The judged class is class 1, her method 1. -/
namespace start1
open Jvm.ClassFile
def u (s : String) : CpInfo := .utf8 (stringToUtf16 s)
/-- a pool by its gaps: so many unusable entries, then the entry; so many at the end -/
def gap : Nat → List CpInfo → List CpInfo
  | 0, r => r
  | n + 1, r => .unusable :: gap n r
def poolList (es : List (Nat × CpInfo)) (last : Nat) : List CpInfo := es.foldr (fun e r => gap e.1 (e.2 :: r)) (gap last [])
def pool (es : List (Nat × CpInfo)) (last : Nat) : Array CpInfo := ⟨poolList es last⟩
def fileOf (pool : Array CpInfo) (this : Nat) (attrs : Array Attribute := #[]) (ms : Array MethodInfo := #[]) (fl : Nat := 33) (sup : Nat := 0) (ifs : Array Nat := #[]) (fds : Array FieldInfo := #[]) : ClassFile where
  minorVersion := 0
  majorVersion := 65
  constantPool := pool
  accessFlags := fl
  thisClass := this
  superClass := sup
  interfaces := ifs
  fields := fds
  methods := ms
  attributes := attrs
def plain (name : String) (sup : Option ClassId) : Class where
  name := name
  kind := .ordinary
  loader := none
  accessFlags := 33
  super := sup
  interfaces := #[]
  cf := none
  fields := #[]
  methods := #[]
  instanceTypes := #[]
  staticTypes := #[]
  resolved := #[]
  callSites := []
  init := .initialized
  statics := none
  mirror := none

def pool0 : Array CpInfo := pool [(5, u "<init>"), (0, u "()V"), (1, .class_ 10), (1, u "java/lang/Object"), (85, u "clone"), (0, u "()Ljava/lang/Object;")] 26

def k0c0 : Code := { maxStack := 0, maxLocals := 1, code := object_method_1_code, exceptionTable := #[], attributes := #[] }
def k0m0 : Method := { name := "<init>", desc := "()V", sig := { parameters := [], returnType := none }, accessFlags := 1, code := some k0c0 }
def k0m1 : Method := { name := "clone", desc := "()Ljava/lang/Object;", sig := { parameters := [], returnType := some (.object "java/lang/Object") }, accessFlags := 260, code := none }
/-- java/lang/Object -/
def k0 : Class := { plain "java/lang/Object" none with
  accessFlags := 33
  interfaces := #[]
  cf := some (fileOf pool0 8 #[] #[{ accessFlags := 1, nameIndex := 5, descriptorIndex := 6, attributes := #[] }, { accessFlags := 260, nameIndex := 96, descriptorIndex := 97, attributes := #[] }] 33 0 #[] #[])
  fields := #[]
  methods := #[k0m0, k0m1]
  instanceTypes := #[]
  staticTypes := #[]
  resolved := Array.replicate 124 none
  statics := none }

def pool1 : Array CpInfo := pool [(2, .class_ 4), (1, u "java/lang/Object"), (0, u "<init>"), (0, u "()V"), (0, .integer 65535), (0, .integer 2147483647), (0, .methodref 10 11), (0, .class_ 12), (0, .nameAndType 13 14), (0, u "com/example/tierbook/tierbook/cli/FlagNamedPinLaw"), (0, u "help"), (0, u "([C)V"), (0, .methodref 10 16), (0, .nameAndType 17 14), (0, u "version"), (0, .methodref 10 19), (0, .nameAndType 20 21), (0, u "str"), (0, u "([CI)Ljava/lang/String;"), (0, .string 23), (0, u "--help"), (0, .methodref 25 26), (0, .class_ 27), (0, .nameAndType 28 29), (0, u "java/lang/String"), (0, u "equals"), (0, u "(Ljava/lang/Object;)Z"), (0, .string 31), (0, u "-h"), (0, .fieldref 33 34), (0, .class_ 35), (0, .nameAndType 36 37), (0, u "com/example/tierbook/tierbook/cli/Flag"), (0, u "HELP"), (0, u "Lcom/example/tierbook/tierbook/cli/Flag;"), (0, .string 39), (0, u "--version"), (0, .string 41), (0, u "-V"), (0, .fieldref 33 43), (0, .nameAndType 44 37), (0, u "VERSION"), (0, .methodref 33 46), (0, .nameAndType 47 48), (0, u "named"), (0, u "(Ljava/lang/String;)Lcom/example/tierbook/tierbook/cli/Flag;"), (0, .methodref 25 50), (0, .nameAndType 5 14), (2, u "law"), (0, u "(IIIII)Z")] 5

def k1m0 : Method := { name := "<init>", desc := "()V", sig := { parameters := [], returnType := none }, accessFlags := 1, code := none }
def k1c1 : Code := { maxStack := 3, maxLocals := 15, code := code, exceptionTable := #[], attributes := #[] }
def k1m1 : Method := { name := "law", desc := "(IIIII)Z", sig := { parameters := [.int, .int, .int, .int, .int], returnType := some .boolean }, accessFlags := 9, code := some k1c1 }
def k1c2 : Code := { maxStack := 3, maxLocals := 1, code := method_3_code, exceptionTable := #[], attributes := #[] }
def k1m2 : Method := { name := "help", desc := "([C)V", sig := { parameters := [(.array .char)], returnType := none }, accessFlags := 10, code := some k1c2 }
def k1c3 : Code := { maxStack := 3, maxLocals := 1, code := method_4_code, exceptionTable := #[], attributes := #[] }
def k1m3 : Method := { name := "version", desc := "([C)V", sig := { parameters := [(.array .char)], returnType := none }, accessFlags := 10, code := some k1c3 }
def k1c4 : Code := { maxStack := 7, maxLocals := 2, code := method_5_code, exceptionTable := #[], attributes := #[] }
def k1m4 : Method := { name := "str", desc := "([CI)Ljava/lang/String;", sig := { parameters := [(.array .char), .int], returnType := some (.object "java/lang/String") }, accessFlags := 10, code := some k1c4 }
/-- com/example/tierbook/tierbook/cli/FlagNamedPinLaw -/
def k1 : Class := { plain "com/example/tierbook/tierbook/cli/FlagNamedPinLaw" (some 0) with
  accessFlags := 49
  interfaces := #[]
  cf := some (fileOf pool1 10 #[] #[{ accessFlags := 1, nameIndex := 5, descriptorIndex := 6, attributes := #[] }, { accessFlags := 9, nameIndex := 53, descriptorIndex := 54, attributes := #[] }, { accessFlags := 10, nameIndex := 13, descriptorIndex := 14, attributes := #[] }, { accessFlags := 10, nameIndex := 17, descriptorIndex := 14, attributes := #[] }, { accessFlags := 10, nameIndex := 20, descriptorIndex := 21, attributes := #[] }] 49 2 #[] #[])
  fields := #[]
  methods := #[k1m0, k1m1, k1m2, k1m3, k1m4]
  instanceTypes := #[]
  staticTypes := #[]
  resolved := Array.replicate 60 none
  statics := none }

def pool2 : Array CpInfo := pool [(1, .class_ 2), (0, u "java/io/Serializable"), (0, .class_ 4), (0, u "java/lang/Object")] 2

/-- java/io/Serializable -/
def k2 : Class := { plain "java/io/Serializable" (some 0) with
  accessFlags := 1537
  interfaces := #[]
  cf := some (fileOf pool2 1 #[] #[] 1537 3 #[] #[])
  fields := #[]
  methods := #[]
  instanceTypes := #[]
  staticTypes := #[]
  resolved := Array.replicate 7 none
  statics := none }

def pool3 : Array CpInfo := pool [(1, .class_ 2), (0, u "java/lang/Comparable"), (0, .class_ 4), (0, u "java/lang/Object")] 7

/-- java/lang/Comparable -/
def k3 : Class := { plain "java/lang/Comparable" (some 0) with
  accessFlags := 1537
  interfaces := #[]
  cf := some (fileOf pool3 1 #[] #[] 1537 3 #[] #[])
  fields := #[]
  methods := #[]
  instanceTypes := #[]
  staticTypes := #[]
  resolved := Array.replicate 12 none
  statics := none }

def pool4 : Array CpInfo := pool [(2, .class_ 4), (1, u "java/lang/CharSequence"), (42, .class_ 48), (0, u "java/lang/CharSequence$1CodePointIterator"), (10, .class_ 60), (0, u "java/lang/CharSequence$1CharIterator"), (5, .class_ 67), (0, u "java/lang/Object")] 63

/-- java/lang/CharSequence -/
def k4 : Class := { plain "java/lang/CharSequence" (some 0) with
  accessFlags := 1537
  interfaces := #[]
  cf := some (fileOf pool4 2 #[.nestMembers #[47, 59]] #[] 1537 66 #[] #[])
  fields := #[]
  methods := #[]
  instanceTypes := #[]
  staticTypes := #[]
  resolved := Array.replicate 131 none
  statics := none }

def pool5 : Array CpInfo := pool [(1, .class_ 2), (0, u "java/lang/constant/Constable"), (0, .class_ 4), (0, u "java/lang/Object")] 6

/-- java/lang/constant/Constable -/
def k5 : Class := { plain "java/lang/constant/Constable" (some 0) with
  accessFlags := 1537
  interfaces := #[]
  cf := some (fileOf pool5 1 #[] #[] 1537 3 #[] #[])
  fields := #[]
  methods := #[]
  instanceTypes := #[]
  staticTypes := #[]
  resolved := Array.replicate 11 none
  statics := none }

def pool6 : Array CpInfo := pool [(1, .class_ 2), (0, u "java/lang/constant/ConstantDesc"), (0, .class_ 4), (0, u "java/lang/Object")] 32

/-- java/lang/constant/ConstantDesc -/
def k6 : Class := { plain "java/lang/constant/ConstantDesc" (some 0) with
  accessFlags := 1537
  interfaces := #[]
  cf := some (fileOf pool6 1 #[] #[] 1537 3 #[] #[])
  fields := #[]
  methods := #[]
  instanceTypes := #[]
  staticTypes := #[]
  resolved := Array.replicate 37 none
  statics := none }

def pool7 : Array CpInfo := pool [(1, .methodref 2 3), (0, .class_ 4), (0, .nameAndType 5 6), (0, u "java/lang/Object"), (0, u "<init>"), (0, u "()V"), (0, .string 8), (0, u ""), (0, .fieldref 10 11), (0, .class_ 12), (0, .nameAndType 13 14), (0, u "java/lang/String"), (0, u "value"), (0, u "[B"), (0, .fieldref 10 16), (0, .nameAndType 17 18), (0, u "coder"), (0, u "B"), (2, u "hash"), (0, u "I"), (2, u "hashIsZero"), (0, u "Z"), (0, .methodref 10 28), (0, .nameAndType 5 29), (0, u "([CIILjava/lang/Void;)V"), (8, .fieldref 10 39), (0, .nameAndType 40 26), (0, u "COMPACT_STRINGS"), (1, .class_ 44), (1, u "java/lang/StringUTF16"), (0, u "compress"), (1, .methodref 42 48), (0, .nameAndType 49 50), (0, u "coderFromArrayLen"), (0, u "([BI)B"), (56, .class_ 109), (1, u "java/lang/StringLatin1"), (32, u "()Z"), (34, .methodref 42 178), (0, .nameAndType 45 179), (0, u "([CII)[B"), (154, u "()I"), (0, .methodref 10 336), (0, .nameAndType 17 337), (0, u "()B"), (25, u "([BI)C"), (27, u "(II)V"), (35, u "(I)C"), (64, .methodref 10 493), (0, .nameAndType 494 142), (0, u "isLatin1"), (0, .methodref 107 496), (0, .nameAndType 497 363), (0, u "charAt"), (0, .methodref 42 496), (2, u "checkIndex"), (5, u "length"), (33, .methodref 107 542), (0, .nameAndType 543 544), (0, u "equals"), (0, u "([B[B)Z"), (28, u "(Ljava/lang/Object;)Z"), (1, .class_ 576), (0, u "java/lang/CharSequence"), (22, u "CASE_INSENSITIVE_ORDER"), (0, u "Ljava/util/Comparator;"), (409, u "([C)V"), (42, .fieldref 1054 1055), (0, .class_ 1056), (0, .nameAndType 1057 1058), (0, u "jdk/internal/util/Preconditions"), (0, u "SIOOBE_FORMATTER"), (0, u "Ljava/util/function/BiFunction;"), (0, .methodref 1054 1060), (0, .nameAndType 501 1061), (0, u "(IILjava/util/function/BiFunction;)I"), (39, u "serialPersistentFields"), (0, u "[Ljava/io/ObjectStreamField;"), (0, .class_ 1104), (0, u "java/lang/String$CaseInsensitiveComparator"), (1, .class_ 1107), (0, u "java/io/Serializable"), (0, .class_ 1109), (0, u "java/lang/Comparable"), (0, .class_ 1111), (0, u "java/lang/constant/Constable"), (0, .class_ 1113), (0, u "java/lang/constant/ConstantDesc"), (2, u "serialVersionUID"), (0, u "J"), (3, u "REPL"), (0, u "C"), (2, u "LATIN1"), (1, u "UTF16")] 323

def k7m0 : Method := { name := "<init>", desc := "()V", sig := { parameters := [], returnType := none }, accessFlags := 1, code := none }
def k7c1 : Code := { maxStack := 5, maxLocals := 2, code := jdk_42_method_3_code, exceptionTable := #[], attributes := #[] }
def k7m1 : Method := { name := "<init>", desc := "([C)V", sig := { parameters := [(.array .char)], returnType := none }, accessFlags := 1, code := some k7c1 }
def k7c2 : Code := { maxStack := 2, maxLocals := 1, code := jdk_42_method_54_code, exceptionTable := #[], attributes := #[] }
def k7m2 : Method := { name := "length", desc := "()I", sig := { parameters := [], returnType := some .int }, accessFlags := 1, code := some k7c2 }
def k7c3 : Code := { maxStack := 2, maxLocals := 2, code := jdk_42_method_56_code, exceptionTable := #[], attributes := #[] }
def k7m3 : Method := { name := "charAt", desc := "(I)C", sig := { parameters := [.int], returnType := some .char }, accessFlags := 1, code := some k7c3 }
def k7c4 : Code := { maxStack := 2, maxLocals := 3, code := jdk_42_method_66_code, exceptionTable := #[], attributes := #[] }
def k7m4 : Method := { name := "equals", desc := "(Ljava/lang/Object;)Z", sig := { parameters := [(.object "java/lang/Object")], returnType := some .boolean }, accessFlags := 1, code := some k7c4 }
def k7c5 : Code := { maxStack := 4, maxLocals := 6, code := jdk_42_method_149_code, exceptionTable := #[], attributes := #[] }
def k7m5 : Method := { name := "<init>", desc := "([CIILjava/lang/Void;)V", sig := { parameters := [(.array .char), .int, .int, (.object "java/lang/Void")], returnType := none }, accessFlags := 2, code := some k7c5 }
def k7c6 : Code := { maxStack := 1, maxLocals := 1, code := jdk_42_method_152_code, exceptionTable := #[], attributes := #[] }
def k7m6 : Method := { name := "coder", desc := "()B", sig := { parameters := [], returnType := some .byte }, accessFlags := 0, code := some k7c6 }
def k7c7 : Code := { maxStack := 1, maxLocals := 1, code := jdk_42_method_154_code, exceptionTable := #[], attributes := #[] }
def k7m7 : Method := { name := "isLatin1", desc := "()Z", sig := { parameters := [], returnType := some .boolean }, accessFlags := 0, code := some k7c7 }
def k7c8 : Code := { maxStack := 3, maxLocals := 2, code := jdk_42_method_155_code, exceptionTable := #[], attributes := #[] }
def k7m8 : Method := { name := "checkIndex", desc := "(II)V", sig := { parameters := [.int, .int], returnType := none }, accessFlags := 8, code := some k7c8 }
/-- java/lang/String -/
def k7 : Class := { plain "java/lang/String" (some 0) with
  accessFlags := 49
  interfaces := #[2, 3, 4, 5, 6]
  cf := some (fileOf pool7 10 #[.nestMembers #[1103]] #[{ accessFlags := 1, nameIndex := 5, descriptorIndex := 6, attributes := #[] }, { accessFlags := 1, nameIndex := 5, descriptorIndex := 1010, attributes := #[] }, { accessFlags := 1, nameIndex := 507, descriptorIndex := 334, attributes := #[] }, { accessFlags := 1, nameIndex := 497, descriptorIndex := 427, attributes := #[] }, { accessFlags := 1, nameIndex := 543, descriptorIndex := 573, attributes := #[] }, { accessFlags := 2, nameIndex := 5, descriptorIndex := 29, attributes := #[] }, { accessFlags := 0, nameIndex := 17, descriptorIndex := 337, attributes := #[] }, { accessFlags := 0, nameIndex := 494, descriptorIndex := 142, attributes := #[] }, { accessFlags := 8, nameIndex := 501, descriptorIndex := 391, attributes := #[] }] 49 2 #[1106, 1108, 575, 1110, 1112] #[{ accessFlags := 18, nameIndex := 13, descriptorIndex := 14, attributes := #[] }, { accessFlags := 18, nameIndex := 17, descriptorIndex := 18, attributes := #[] }, { accessFlags := 2, nameIndex := 21, descriptorIndex := 22, attributes := #[] }, { accessFlags := 2, nameIndex := 25, descriptorIndex := 26, attributes := #[] }, { accessFlags := 26, nameIndex := 1116, descriptorIndex := 1117, attributes := #[] }, { accessFlags := 24, nameIndex := 40, descriptorIndex := 26, attributes := #[] }, { accessFlags := 26, nameIndex := 1101, descriptorIndex := 1102, attributes := #[] }, { accessFlags := 26, nameIndex := 1121, descriptorIndex := 1122, attributes := #[] }, { accessFlags := 25, nameIndex := 599, descriptorIndex := 600, attributes := #[] }, { accessFlags := 24, nameIndex := 1125, descriptorIndex := 18, attributes := #[] }, { accessFlags := 24, nameIndex := 1127, descriptorIndex := 18, attributes := #[] }])
  fields := #[{ name := "value", type := (.array .byte), accessFlags := 18, slot := 0, constantValue := 0 }, { name := "coder", type := .byte, accessFlags := 18, slot := 1, constantValue := 0 }, { name := "hash", type := .int, accessFlags := 2, slot := 2, constantValue := 0 }, { name := "hashIsZero", type := .boolean, accessFlags := 2, slot := 3, constantValue := 0 }, { name := "serialVersionUID", type := .long, accessFlags := 26, slot := 0, constantValue := 0 }, { name := "COMPACT_STRINGS", type := .boolean, accessFlags := 24, slot := 1, constantValue := 0 }, { name := "serialPersistentFields", type := (.array (.object "java/io/ObjectStreamField")), accessFlags := 26, slot := 2, constantValue := 0 }, { name := "REPL", type := .char, accessFlags := 26, slot := 3, constantValue := 0 }, { name := "CASE_INSENSITIVE_ORDER", type := (.object "java/util/Comparator"), accessFlags := 25, slot := 4, constantValue := 0 }, { name := "LATIN1", type := .byte, accessFlags := 24, slot := 5, constantValue := 0 }, { name := "UTF16", type := .byte, accessFlags := 24, slot := 6, constantValue := 0 }]
  methods := #[k7m0, k7m1, k7m2, k7m3, k7m4, k7m5, k7m6, k7m7, k7m8]
  instanceTypes := #[(.array .byte), .byte, .int, .boolean]
  staticTypes := #[.long, .boolean, (.array (.object "java/io/ObjectStreamField")), .char, (.object "java/util/Comparator"), .byte, .byte]
  resolved := Array.replicate 1451 none
  statics := some 0 }

def pool8 : Array CpInfo := pool [(1, .class_ 2), (0, u "java/lang/String"), (1, .class_ 6), (1, u "java/lang/Object"), (0, u "<init>"), (0, u "()V"), (0, .methodref 1 10), (0, .nameAndType 11 12), (0, u "checkIndex"), (0, u "(II)V"), (1, .class_ 16), (1, u "java/lang/StringLatin1"), (36, u "([BI)C"), (67, u "$assertionsDisabled"), (0, u "Z"), (98, .class_ 223), (1, u "java/lang/StringLatin1$LinesSpliterator"), (28, u "charAt"), (28, u "equals"), (0, u "([B[B)Z"), (107, .class_ 391), (0, u "java/lang/StringLatin1$CharsSpliterator")] 3

def k8m0 : Method := { name := "<init>", desc := "()V", sig := { parameters := [], returnType := none }, accessFlags := 0, code := none }
def k8c1 : Code := { maxStack := 2, maxLocals := 2, code := jdk_43_method_2_code, exceptionTable := #[], attributes := #[] }
def k8m1 : Method := { name := "charAt", desc := "([BI)C", sig := { parameters := [(.array .byte), .int], returnType := some .char }, accessFlags := 9, code := some k8c1 }
def k8c2 : Code := { maxStack := 3, maxLocals := 3, code := jdk_43_method_13_code, exceptionTable := #[], attributes := #[] }
def k8m2 : Method := { name := "equals", desc := "([B[B)Z", sig := { parameters := [(.array .byte), (.array .byte)], returnType := some .boolean }, accessFlags := 9, code := some k8c2 }
/-- java/lang/StringLatin1 -/
def k8 : Class := { plain "java/lang/StringLatin1" (some 0) with
  accessFlags := 48
  interfaces := #[]
  cf := some (fileOf pool8 14 #[.nestMembers #[390, 221]] #[{ accessFlags := 0, nameIndex := 7, descriptorIndex := 8, attributes := #[] }, { accessFlags := 9, nameIndex := 252, descriptorIndex := 53, attributes := #[] }, { accessFlags := 9, nameIndex := 281, descriptorIndex := 282, attributes := #[] }] 48 4 #[] #[{ accessFlags := 4120, nameIndex := 121, descriptorIndex := 122, attributes := #[] }])
  fields := #[{ name := "$assertionsDisabled", type := .boolean, accessFlags := 4120, slot := 0, constantValue := 0 }]
  methods := #[k8m0, k8m1, k8m2]
  instanceTypes := #[]
  staticTypes := #[.boolean]
  resolved := Array.replicate 395 none
  statics := none }

def pool9 : Array CpInfo := pool [(2, .class_ 4), (1, u "java/lang/Enum"), (0, u "name"), (0, u "Ljava/lang/String;"), (2, u "ordinal"), (0, u "I"), (1, .class_ 14), (1, u "java/lang/Object"), (4, u "hash"), (86, .class_ 108), (1, u "java/lang/Enum$EnumDesc"), (2, .class_ 112), (0, u "java/lang/constant/Constable"), (0, .class_ 114), (0, u "java/lang/Comparable"), (0, .class_ 116), (0, u "java/io/Serializable")] 87

/-- java/lang/Enum -/
def k9 : Class := { plain "java/lang/Enum" (some 0) with
  accessFlags := 1057
  interfaces := #[5, 3, 2]
  cf := some (fileOf pool9 2 #[.nestMembers #[106]] #[] 1057 12 #[111, 113, 115] #[{ accessFlags := 18, nameIndex := 5, descriptorIndex := 6, attributes := #[] }, { accessFlags := 18, nameIndex := 9, descriptorIndex := 10, attributes := #[] }, { accessFlags := 2, nameIndex := 19, descriptorIndex := 10, attributes := #[] }])
  fields := #[{ name := "name", type := (.object "java/lang/String"), accessFlags := 18, slot := 0, constantValue := 0 }, { name := "ordinal", type := .int, accessFlags := 18, slot := 1, constantValue := 0 }, { name := "hash", type := .int, accessFlags := 2, slot := 2, constantValue := 0 }]
  methods := #[]
  instanceTypes := #[(.object "java/lang/String"), .int, .int]
  staticTypes := #[]
  resolved := Array.replicate 204 none
  statics := none }

def pool10 : Array CpInfo := pool [(1, .class_ 2), (0, u "com/example/tierbook/tierbook/cli/Flag"), (2, u "HELP"), (0, u "Lcom/example/tierbook/tierbook/cli/Flag;"), (2, u "VERSION"), (0, .fieldref 1 11), (0, .nameAndType 12 13), (0, u "$VALUES"), (0, u "[Lcom/example/tierbook/tierbook/cli/Flag;"), (0, .methodref 15 16), (0, .class_ 13), (0, .nameAndType 17 18), (0, u "clone"), (0, u "()Ljava/lang/Object;"), (1, .class_ 22), (1, u "java/lang/Enum"), (6, .fieldref 1 30), (0, .nameAndType 31 32), (0, u "letter"), (0, u "C"), (0, .fieldref 1 34), (0, .nameAndType 35 36), (0, u "name"), (0, u "Ljava/lang/String;"), (2, u "description"), (0, .methodref 1 41), (0, .nameAndType 42 43), (0, u "values"), (0, u "()[Lcom/example/tierbook/tierbook/cli/Flag;"), (0, .methodref 45 46), (0, .class_ 47), (0, .nameAndType 48 49), (0, u "java/lang/String"), (0, u "equals"), (0, u "(Ljava/lang/Object;)Z"), (0, .methodref 45 51), (0, .nameAndType 52 53), (0, u "length"), (0, u "()I"), (0, .methodref 45 55), (0, .nameAndType 56 57), (0, u "charAt"), (0, u "(I)C"), (22, u "(Ljava/lang/String;)Lcom/example/tierbook/tierbook/cli/Flag;"), (3, u "named")] 26

def k10c0 : Code := { maxStack := 1, maxLocals := 0, code := prog_5_method_1_code, exceptionTable := #[], attributes := #[] }
def k10m0 : Method := { name := "values", desc := "()[Lcom/example/tierbook/tierbook/cli/Flag;", sig := { parameters := [], returnType := some (.array (.object "com/example/tierbook/tierbook/cli/Flag")) }, accessFlags := 9, code := some k10c0 }
def k10c1 : Code := { maxStack := 2, maxLocals := 5, code := prog_5_method_4_code, exceptionTable := #[], attributes := #[] }
def k10m1 : Method := { name := "named", desc := "(Ljava/lang/String;)Lcom/example/tierbook/tierbook/cli/Flag;", sig := { parameters := [(.object "java/lang/String")], returnType := some (.object "com/example/tierbook/tierbook/cli/Flag") }, accessFlags := 8, code := some k10c1 }
/-- com/example/tierbook/tierbook/cli/Flag -/
def k10 : Class := { plain "com/example/tierbook/tierbook/cli/Flag" (some 9) with
  accessFlags := 16432
  interfaces := #[]
  cf := some (fileOf pool10 1 #[] #[{ accessFlags := 9, nameIndex := 42, descriptorIndex := 43, attributes := #[] }, { accessFlags := 8, nameIndex := 84, descriptorIndex := 80, attributes := #[] }] 16432 20 #[] #[{ accessFlags := 16409, nameIndex := 5, descriptorIndex := 6, attributes := #[] }, { accessFlags := 16409, nameIndex := 9, descriptorIndex := 6, attributes := #[] }, { accessFlags := 18, nameIndex := 31, descriptorIndex := 32, attributes := #[] }, { accessFlags := 18, nameIndex := 35, descriptorIndex := 36, attributes := #[] }, { accessFlags := 18, nameIndex := 39, descriptorIndex := 36, attributes := #[] }, { accessFlags := 4122, nameIndex := 12, descriptorIndex := 13, attributes := #[] }])
  fields := #[{ name := "HELP", type := (.object "com/example/tierbook/tierbook/cli/Flag"), accessFlags := 16409, slot := 0, constantValue := 0 }, { name := "VERSION", type := (.object "com/example/tierbook/tierbook/cli/Flag"), accessFlags := 16409, slot := 1, constantValue := 0 }, { name := "letter", type := .char, accessFlags := 18, slot := 3, constantValue := 0 }, { name := "name", type := (.object "java/lang/String"), accessFlags := 18, slot := 4, constantValue := 0 }, { name := "description", type := (.object "java/lang/String"), accessFlags := 18, slot := 5, constantValue := 0 }, { name := "$VALUES", type := (.array (.object "com/example/tierbook/tierbook/cli/Flag")), accessFlags := 4122, slot := 2, constantValue := 0 }]
  methods := #[k10m0, k10m1]
  instanceTypes := #[(.object "java/lang/String"), .int, .int, .char, (.object "java/lang/String"), (.object "java/lang/String")]
  staticTypes := #[(.object "com/example/tierbook/tierbook/cli/Flag"), (.object "com/example/tierbook/tierbook/cli/Flag"), (.array (.object "com/example/tierbook/tierbook/cli/Flag"))]
  resolved := Array.replicate 111 none
  statics := some 1 }

def pool11 : Array CpInfo := pool [(1, .class_ 2), (0, u "java/lang/Cloneable"), (0, .class_ 4), (0, u "java/lang/Object")] 2

/-- java/lang/Cloneable -/
def k11 : Class := { plain "java/lang/Cloneable" (some 0) with
  accessFlags := 1537
  interfaces := #[]
  cf := some (fileOf pool11 1 #[] #[] 1537 3 #[] #[])
  fields := #[]
  methods := #[]
  instanceTypes := #[]
  staticTypes := #[]
  resolved := Array.replicate 7 none
  statics := none }

def pool12 : Array CpInfo := pool [(3, .class_ 4), (0, u "java/lang/String"), (1, .class_ 8), (1, u "java/lang/Object"), (0, u "<init>"), (0, u "()V"), (0, .methodref 12 13), (0, .class_ 14), (0, .nameAndType 15 16), (0, u "java/lang/StringUTF16"), (0, u "newBytesLength"), (0, u "(I)I"), (3, .integer 1073741823), (23, .fieldref 12 45), (0, .nameAndType 46 47), (0, u "$assertionsDisabled"), (0, u "Z"), (0, .methodref 12 49), (0, .nameAndType 50 51), (0, u "length"), (0, u "([B)I"), (7, .fieldref 12 60), (0, .nameAndType 61 62), (0, u "HI_BYTE_SHIFT"), (0, u "I"), (0, .fieldref 12 64), (0, .nameAndType 65 62), (0, u "LO_BYTE_SHIFT"), (1, .methodref 12 68), (0, .nameAndType 69 70), (0, u "checkIndex"), (0, u "(I[B)V"), (0, .methodref 12 72), (0, .nameAndType 73 74), (0, u "getChar"), (0, u "([BI)C"), (32, .methodref 12 108), (0, .nameAndType 109 110), (0, u "newBytesFor"), (0, u "(I)[B"), (0, .methodref 12 112), (0, .nameAndType 113 114), (0, u "putChar"), (0, u "([BII)V"), (0, .methodref 12 116), (0, .nameAndType 117 118), (0, u "compress"), (0, u "([CI[BII)I"), (0, .methodref 12 120), (0, .nameAndType 121 122), (0, u "toBytes"), (0, u "([CII)[B"), (138, u "coderFromArrayLen"), (0, u "([BI)B"), (106, .class_ 371), (1, u "java/lang/StringUTF16$LinesSpliterator"), (20, u "charAt"), (21, .methodref 3 415), (0, .nameAndType 69 416), (0, u "(II)V"), (13, u "MAX_LENGTH"), (196, .class_ 628), (0, u "java/lang/StringUTF16$CodePointsSpliterator"), (0, .class_ 630), (0, u "java/lang/StringUTF16$CharsSpliterator")] 4

def k12m0 : Method := { name := "<init>", desc := "()V", sig := { parameters := [], returnType := none }, accessFlags := 0, code := none }
def k12c1 : Code := { maxStack := 1, maxLocals := 1, code := jdk_52_method_2_code, exceptionTable := #[], attributes := #[] }
def k12m1 : Method := { name := "newBytesFor", desc := "(I)[B", sig := { parameters := [.int], returnType := some (.array .byte) }, accessFlags := 9, code := some k12c1 }
def k12c2 : Code := { maxStack := 4, maxLocals := 1, code := jdk_52_method_3_code, exceptionTable := #[], attributes := #[] }
def k12m2 : Method := { name := "newBytesLength", desc := "(I)I", sig := { parameters := [.int], returnType := some .int }, accessFlags := 9, code := some k12c2 }
def k12c3 : Code := { maxStack := 4, maxLocals := 3, code := jdk_52_method_4_code, exceptionTable := #[], attributes := #[] }
def k12m3 : Method := { name := "putChar", desc := "([BII)V", sig := { parameters := [(.array .byte), .int, .int], returnType := none }, accessFlags := 8, code := some k12c3 }
def k12c4 : Code := { maxStack := 3, maxLocals := 2, code := jdk_52_method_5_code, exceptionTable := #[], attributes := #[] }
def k12m4 : Method := { name := "getChar", desc := "([BI)C", sig := { parameters := [(.array .byte), .int], returnType := some .char }, accessFlags := 8, code := some k12c4 }
def k12c5 : Code := { maxStack := 2, maxLocals := 1, code := jdk_52_method_6_code, exceptionTable := #[], attributes := #[] }
def k12m5 : Method := { name := "length", desc := "([B)I", sig := { parameters := [(.array .byte)], returnType := some .int }, accessFlags := 9, code := some k12c5 }
def k12c6 : Code := { maxStack := 4, maxLocals := 5, code := jdk_52_method_14_code, exceptionTable := #[], attributes := #[] }
def k12m6 : Method := { name := "toBytes", desc := "([CII)[B", sig := { parameters := [(.array .char), .int, .int], returnType := some (.array .byte) }, accessFlags := 9, code := some k12c6 }
def k12c7 : Code := { maxStack := 2, maxLocals := 2, code := jdk_52_method_15_code, exceptionTable := #[], attributes := #[] }
def k12m7 : Method := { name := "coderFromArrayLen", desc := "([BI)B", sig := { parameters := [(.array .byte), .int], returnType := some .byte }, accessFlags := 8, code := some k12c7 }
def k12c8 : Code := { maxStack := 5, maxLocals := 6, code := jdk_52_method_16_code, exceptionTable := #[], attributes := #[] }
def k12m8 : Method := { name := "compress", desc := "([CII)[B", sig := { parameters := [(.array .char), .int, .int], returnType := some (.array .byte) }, accessFlags := 9, code := some k12c8 }
def k12c9 : Code := { maxStack := 3, maxLocals := 7, code := jdk_52_method_21_code, exceptionTable := #[], attributes := #[] }
def k12m9 : Method := { name := "compress", desc := "([CI[BII)I", sig := { parameters := [(.array .char), .int, (.array .byte), .int, .int], returnType := some .int }, accessFlags := 9, code := some k12c9 }
def k12c10 : Code := { maxStack := 2, maxLocals := 2, code := jdk_52_method_83_code, exceptionTable := #[], attributes := #[] }
def k12m10 : Method := { name := "charAt", desc := "([BI)C", sig := { parameters := [(.array .byte), .int], returnType := some .char }, accessFlags := 9, code := some k12c10 }
def k12c11 : Code := { maxStack := 2, maxLocals := 2, code := jdk_52_method_91_code, exceptionTable := #[], attributes := #[] }
def k12m11 : Method := { name := "checkIndex", desc := "(I[B)V", sig := { parameters := [.int, (.array .byte)], returnType := none }, accessFlags := 9, code := some k12c11 }
/-- java/lang/StringUTF16 -/
def k12 : Class := { plain "java/lang/StringUTF16" (some 0) with
  accessFlags := 48
  interfaces := #[]
  cf := some (fileOf pool12 12 #[.nestMembers #[627, 629, 369]] #[{ accessFlags := 0, nameIndex := 9, descriptorIndex := 10, attributes := #[] }, { accessFlags := 9, nameIndex := 109, descriptorIndex := 110, attributes := #[] }, { accessFlags := 9, nameIndex := 15, descriptorIndex := 16, attributes := #[] }, { accessFlags := 8, nameIndex := 113, descriptorIndex := 114, attributes := #[] }, { accessFlags := 8, nameIndex := 73, descriptorIndex := 74, attributes := #[] }, { accessFlags := 9, nameIndex := 50, descriptorIndex := 51, attributes := #[] }, { accessFlags := 9, nameIndex := 121, descriptorIndex := 122, attributes := #[] }, { accessFlags := 8, nameIndex := 261, descriptorIndex := 262, attributes := #[] }, { accessFlags := 9, nameIndex := 117, descriptorIndex := 122, attributes := #[] }, { accessFlags := 9, nameIndex := 117, descriptorIndex := 118, attributes := #[] }, { accessFlags := 9, nameIndex := 392, descriptorIndex := 74, attributes := #[] }, { accessFlags := 9, nameIndex := 69, descriptorIndex := 70, attributes := #[] }] 48 6 #[] #[{ accessFlags := 26, nameIndex := 61, descriptorIndex := 62, attributes := #[] }, { accessFlags := 26, nameIndex := 65, descriptorIndex := 62, attributes := #[] }, { accessFlags := 24, nameIndex := 430, descriptorIndex := 62, attributes := #[] }, { accessFlags := 4120, nameIndex := 46, descriptorIndex := 47, attributes := #[] }])
  fields := #[{ name := "HI_BYTE_SHIFT", type := .int, accessFlags := 26, slot := 0, constantValue := 0 }, { name := "LO_BYTE_SHIFT", type := .int, accessFlags := 26, slot := 1, constantValue := 0 }, { name := "MAX_LENGTH", type := .int, accessFlags := 24, slot := 2, constantValue := 0 }, { name := "$assertionsDisabled", type := .boolean, accessFlags := 4120, slot := 3, constantValue := 0 }]
  methods := #[k12m0, k12m1, k12m2, k12m3, k12m4, k12m5, k12m6, k12m7, k12m8, k12m9, k12m10, k12m11]
  instanceTypes := #[]
  staticTypes := #[.int, .int, .int, .boolean]
  resolved := Array.replicate 635 none
  statics := some 2 }

def pool13 : Array CpInfo := pool [(2, .class_ 4), (1, u "java/lang/Object"), (0, u "<init>"), (0, u "()V"), (17, .class_ 26), (1, u "jdk/internal/util/Preconditions"), (6, u "checkIndex"), (21, .class_ 56), (0, u "jdk/internal/util/Preconditions$4"), (57, .class_ 115), (0, u "jdk/internal/util/Preconditions$1"), (7, u "SIOOBE_FORMATTER"), (0, u "Ljava/util/function/BiFunction;"), (0, .class_ 126), (0, u "jdk/internal/util/Preconditions$2"), (3, u "AIOOBE_FORMATTER"), (0, .class_ 132), (0, u "jdk/internal/util/Preconditions$3"), (3, u "IOOBE_FORMATTER"), (41, u "(IILjava/util/function/BiFunction;)I")] 15

def k13m0 : Method := { name := "<init>", desc := "()V", sig := { parameters := [], returnType := none }, accessFlags := 1, code := none }
def k13c1 : Code := { maxStack := 3, maxLocals := 3, code := jdk_41_method_11_code, exceptionTable := #[], attributes := #[] }
def k13m1 : Method := { name := "checkIndex", desc := "(IILjava/util/function/BiFunction;)I", sig := { parameters := [.int, .int, (.object "java/util/function/BiFunction")], returnType := some .int }, accessFlags := 9, code := some k13c1 }
/-- jdk/internal/util/Preconditions -/
def k13 : Class := { plain "jdk/internal/util/Preconditions" (some 0) with
  accessFlags := 33
  interfaces := #[]
  cf := some (fileOf pool13 24 #[.nestMembers #[55, 131, 125, 114]] #[{ accessFlags := 1, nameIndex := 5, descriptorIndex := 6, attributes := #[] }, { accessFlags := 9, nameIndex := 33, descriptorIndex := 178, attributes := #[] }] 33 2 #[] #[{ accessFlags := 25, nameIndex := 123, descriptorIndex := 124, attributes := #[] }, { accessFlags := 25, nameIndex := 130, descriptorIndex := 124, attributes := #[] }, { accessFlags := 25, nameIndex := 136, descriptorIndex := 124, attributes := #[] }])
  fields := #[{ name := "SIOOBE_FORMATTER", type := (.object "java/util/function/BiFunction"), accessFlags := 25, slot := 0, constantValue := 0 }, { name := "AIOOBE_FORMATTER", type := (.object "java/util/function/BiFunction"), accessFlags := 25, slot := 1, constantValue := 0 }, { name := "IOOBE_FORMATTER", type := (.object "java/util/function/BiFunction"), accessFlags := 25, slot := 2, constantValue := 0 }]
  methods := #[k13m0, k13m1]
  instanceTypes := #[]
  staticTypes := #[(.object "java/util/function/BiFunction"), (.object "java/util/function/BiFunction"), (.object "java/util/function/BiFunction")]
  resolved := Array.replicate 194 none
  statics := some 3 }

def pool14 : Array CpInfo := pool [(9, u "<init>"), (6, .class_ 18), (1, u "java/lang/Object"), (0, u "()V"), (1, .class_ 23), (1, u "jdk/internal/util/ArraysSupport"), (0, u "LOG2_ARRAY_LONG_INDEX_SCALE"), (0, u "I"), (2, u "U"), (0, u "Ljdk/internal/misc/Unsafe;"), (8, u "BIG_ENDIAN"), (0, u "Z"), (8, u "LOG2_BYTE_BIT_SIZE"), (4, u "LOG2_ARRAY_INT_INDEX_SCALE"), (54, u "JLA"), (0, u "Ljdk/internal/access/JavaLangAccess;"), (11, u "LOG2_ARRAY_BOOLEAN_INDEX_SCALE"), (9, u "LOG2_ARRAY_BYTE_INDEX_SCALE"), (5, u "LOG2_ARRAY_CHAR_INDEX_SCALE"), (5, u "LOG2_ARRAY_SHORT_INDEX_SCALE"), (18, u "LOG2_ARRAY_FLOAT_INDEX_SCALE"), (24, u "LOG2_ARRAY_DOUBLE_INDEX_SCALE"), (89, u "T_BOOLEAN"), (2, u "T_CHAR"), (1, u "T_FLOAT"), (1, u "T_DOUBLE"), (1, u "T_BYTE"), (1, u "T_SHORT"), (1, u "T_INT"), (1, u "T_LONG"), (1, u "SOFT_MAX_ARRAY_LENGTH")] 83

def k14m0 : Method := { name := "<init>", desc := "()V", sig := { parameters := [], returnType := none }, accessFlags := 2, code := none }
/-- jdk/internal/util/ArraysSupport -/
def k14 : Class := { plain "jdk/internal/util/ArraysSupport" (some 0) with
  accessFlags := 33
  interfaces := #[]
  cf := some (fileOf pool14 21 #[] #[{ accessFlags := 2, nameIndex := 9, descriptorIndex := 19, attributes := #[] }] 33 16 #[] #[{ accessFlags := 24, nameIndex := 28, descriptorIndex := 29, attributes := #[] }, { accessFlags := 26, nameIndex := 38, descriptorIndex := 39, attributes := #[] }, { accessFlags := 25, nameIndex := 121, descriptorIndex := 25, attributes := #[] }, { accessFlags := 25, nameIndex := 131, descriptorIndex := 25, attributes := #[] }, { accessFlags := 25, nameIndex := 137, descriptorIndex := 25, attributes := #[] }, { accessFlags := 25, nameIndex := 143, descriptorIndex := 25, attributes := #[] }, { accessFlags := 25, nameIndex := 53, descriptorIndex := 25, attributes := #[] }, { accessFlags := 25, nameIndex := 24, descriptorIndex := 25, attributes := #[] }, { accessFlags := 25, nameIndex := 162, descriptorIndex := 25, attributes := #[] }, { accessFlags := 25, nameIndex := 187, descriptorIndex := 25, attributes := #[] }, { accessFlags := 26, nameIndex := 48, descriptorIndex := 25, attributes := #[] }, { accessFlags := 25, nameIndex := 277, descriptorIndex := 25, attributes := #[] }, { accessFlags := 25, nameIndex := 280, descriptorIndex := 25, attributes := #[] }, { accessFlags := 25, nameIndex := 282, descriptorIndex := 25, attributes := #[] }, { accessFlags := 25, nameIndex := 284, descriptorIndex := 25, attributes := #[] }, { accessFlags := 25, nameIndex := 286, descriptorIndex := 25, attributes := #[] }, { accessFlags := 25, nameIndex := 288, descriptorIndex := 25, attributes := #[] }, { accessFlags := 25, nameIndex := 290, descriptorIndex := 25, attributes := #[] }, { accessFlags := 25, nameIndex := 292, descriptorIndex := 25, attributes := #[] }, { accessFlags := 26, nameIndex := 108, descriptorIndex := 109, attributes := #[] }, { accessFlags := 25, nameIndex := 294, descriptorIndex := 25, attributes := #[] }])
  fields := #[{ name := "U", type := (.object "jdk/internal/misc/Unsafe"), accessFlags := 24, slot := 0, constantValue := 0 }, { name := "BIG_ENDIAN", type := .boolean, accessFlags := 26, slot := 1, constantValue := 0 }, { name := "LOG2_ARRAY_BOOLEAN_INDEX_SCALE", type := .int, accessFlags := 25, slot := 2, constantValue := 0 }, { name := "LOG2_ARRAY_BYTE_INDEX_SCALE", type := .int, accessFlags := 25, slot := 3, constantValue := 0 }, { name := "LOG2_ARRAY_CHAR_INDEX_SCALE", type := .int, accessFlags := 25, slot := 4, constantValue := 0 }, { name := "LOG2_ARRAY_SHORT_INDEX_SCALE", type := .int, accessFlags := 25, slot := 5, constantValue := 0 }, { name := "LOG2_ARRAY_INT_INDEX_SCALE", type := .int, accessFlags := 25, slot := 6, constantValue := 0 }, { name := "LOG2_ARRAY_LONG_INDEX_SCALE", type := .int, accessFlags := 25, slot := 7, constantValue := 0 }, { name := "LOG2_ARRAY_FLOAT_INDEX_SCALE", type := .int, accessFlags := 25, slot := 8, constantValue := 0 }, { name := "LOG2_ARRAY_DOUBLE_INDEX_SCALE", type := .int, accessFlags := 25, slot := 9, constantValue := 0 }, { name := "LOG2_BYTE_BIT_SIZE", type := .int, accessFlags := 26, slot := 10, constantValue := 0 }, { name := "T_BOOLEAN", type := .int, accessFlags := 25, slot := 11, constantValue := 0 }, { name := "T_CHAR", type := .int, accessFlags := 25, slot := 12, constantValue := 0 }, { name := "T_FLOAT", type := .int, accessFlags := 25, slot := 13, constantValue := 0 }, { name := "T_DOUBLE", type := .int, accessFlags := 25, slot := 14, constantValue := 0 }, { name := "T_BYTE", type := .int, accessFlags := 25, slot := 15, constantValue := 0 }, { name := "T_SHORT", type := .int, accessFlags := 25, slot := 16, constantValue := 0 }, { name := "T_INT", type := .int, accessFlags := 25, slot := 17, constantValue := 0 }, { name := "T_LONG", type := .int, accessFlags := 25, slot := 18, constantValue := 0 }, { name := "JLA", type := (.object "jdk/internal/access/JavaLangAccess"), accessFlags := 26, slot := 19, constantValue := 0 }, { name := "SOFT_MAX_ARRAY_LENGTH", type := .int, accessFlags := 25, slot := 20, constantValue := 0 }]
  methods := #[k14m0]
  instanceTypes := #[]
  staticTypes := #[(.object "jdk/internal/misc/Unsafe"), .boolean, .int, .int, .int, .int, .int, .int, .int, .int, .int, .int, .int, .int, .int, .int, .int, .int, .int, (.object "jdk/internal/access/JavaLangAccess"), .int]
  resolved := Array.replicate 378 none
  statics := none }

/-- the primitive byte -/
def k15 : Class := { plain "byte" none with kind := .primitive 'B', accessFlags := 0x411 }
/-- [B -/
def k16 : Class := { plain "[B" (some 0) with kind := .array 15 .byte, interfaces := #[11, 2], accessFlags := 1041 }

/-- the primitive char -/
def k17 : Class := { plain "char" none with kind := .primitive 'C', accessFlags := 0x411 }
/-- [C -/
def k18 : Class := { plain "[C" (some 0) with kind := .array 17 .char, interfaces := #[11, 2], accessFlags := 1041 }

/-- the primitive int -/
def k19 : Class := { plain "int" none with kind := .primitive 'I', accessFlags := 0x411 }
/-- [I -/
def k20 : Class := { plain "[I" (some 0) with kind := .array 19 .int, interfaces := #[11, 2], accessFlags := 1041 }

/-- [Lcom/example/tierbook/tierbook/cli/Flag; -/
def k21 : Class := { plain "[Lcom/example/tierbook/tierbook/cli/Flag;" (some 0) with kind := .array 10 (.object "com/example/tierbook/tierbook/cli/Flag"), interfaces := #[11, 2], accessFlags := 1041 }

def heap : Heap := #[{ cls := 7, slots := #[.long 0, .int 1, .null, .int 0, .null, .int 0, .int 0], vm := .statics 7 },
  { cls := 10, slots := #[.ref 5, .ref 6, .ref 4], vm := .statics 10 },
  { cls := 12, slots := #[.int 0, .int 8, .int 0, .int 1], vm := .statics 12 },
  { cls := 13, slots := #[.null, .null, .null], vm := .statics 13 },
  { cls := 21, slots := #[.ref 5, .ref 6], vm := .none },
  { cls := 10, slots := #[.null, .int 0, .int 0, .int 104, .ref 7, .null], vm := .none },
  { cls := 10, slots := #[.null, .int 1, .int 0, .int 86, .ref 9, .null], vm := .none },
  { cls := 7, slots := #[.ref 8, .int 0, .int 0, .int 0], vm := .none },
  { cls := 16, slots := #[.int 45, .int 45, .int 104, .int 101, .int 108, .int 112], vm := .none },
  { cls := 7, slots := #[.ref 10, .int 0, .int 0, .int 0], vm := .none },
  { cls := 16, slots := #[.int 45, .int 45, .int 118, .int 101, .int 114, .int 115, .int 105, .int 111, .int 110], vm := .none }]
def classes : Array Class := #[k0, k1, k2, k3, k4, k5, k6, k7, k8, k9, k10, k11, k12, k13, k14, k15, k16, k17, k18, k19, k20, k21]
def interned : List (Array UInt16 × Addr) := []
def slotsUsed : Nat := 54
def theMethod : MethodId := ⟨1, 1⟩
def args0 : Array Value := #[.int 1, .int 2, .int 65, .int 66, .int 0]
def aboutOver (below : List Frame) : State where
  vm := { classes := classes, interned := interned.toArray }
  heap := heap
  slotsUsed := slotsUsed
  threads := #[{ frames := .invoking theMethod args0 :: below }]
def below0 : List Frame := [.native { method := ⟨0, 0⟩, args := #[] }]
def about1 : State := aboutOver below0
def p0 : Program := .bare "" "" ""
def e0 : Env := launch0.env 0 0 0
theorem w_frames : about1.frames = Frame.invoking theMethod args0 :: below0 := rfl
set_option maxRecDepth 65536 in
theorem w_args : argsFit about1.vm theMethod args0 = true := by decide +kernel
set_option maxRecDepth 65536 in
theorem w_heap : heapFits about1 = true := by decide +kernel
set_option maxRecDepth 65536 in
theorem w_runnable : about1.curStatus? = some .runnable := by decide +kernel
set_option maxRecDepth 65536 in
theorem w_alone : about1.alone = true := by decide +kernel
set_option maxRecDepth 65536 in
theorem w_named : about1.methodNamed? x = some theMethod := by decide +kernel
set_option maxRecDepth 65536 in
theorem w_hears : about1.hears theMethod below0 = true := by decide +kernel
set_option maxRecDepth 65536 in
theorem w_ripe : about1.ripe theMethod args0 below0 = true := by decide +kernel
theorem w_running : about1.status = .running := rfl
set_option maxRecDepth 65536 in
theorem w_room : about1.hasRoom e0.platform room_1 = true :=
  launch0.hasRoom_least _ room_1 (by decide +kernel) (by decide +kernel) (by decide +kernel) (by decide +kernel) (by decide +kernel) (by decide +kernel)
theorem allAtoms_all (ts : List Jvm.Cond) (a : Array Jvm.Value) (st : Jvm.State) : (allAtoms ts).before a st = ts.all (fun c => c.before a st) := by
  induction ts with
  | nil => rfl
  | cons c t ih =>
    show (Jvm.Cond.and c (allAtoms t)).before a st = _
    rw [Jvm.Cond.before_and, ih, List.all_cons]
def words1 : List Jvm.Cond := Jvm.Cond.code x code maxLocals ret :: tables_1
/-- a 'code' word, met by the world's own term for the bytes: nothing is compared byte by byte -/
theorem code_word {y : MethodName} {bytes : ByteArray} {mx : Nat} {rt : Option FieldType} {a : Array Value} {s : State} {m : MethodId} {meth : Method} {c : Code} (h1 : s.methodNamed? y = some m) (h2 : s.vm.method? m = some meth) (h3 : meth.code = some c) (h4 : c.code = bytes)
    (h5 : (c.maxLocals == mx && c.exceptionTable.isEmpty && decide (c.maxStack ≤ mostOperands) && decide (meth.sig.returnType = rt) && !meth.locks && decide (parseMethodDescriptor y.desc = some meth.sig)) = true) : (Jvm.Cond.code y bytes mx rt).before a s = true := by
  simp only [Bool.and_eq_true, beq_iff_eq, Bool.not_eq_true', decide_eq_true_eq] at h5
  obtain ⟨⟨⟨⟨⟨g1, g2⟩, g3⟩, g4⟩, g5⟩, g6⟩ := h5
  simp [Cond.before, Cond.holds, Cond.value, h1, h2, h3, h4, g1, g2, g3, g4, g5, g6]
def isCode : Jvm.Cond → Bool
  | .code _ _ _ _ => true
  | _ => false
theorem all_split {L : List Jvm.Cond} {P : Jvm.Cond → Bool} (h1 : L.all (fun c => isCode c || P c) = true) (h2 : ∀ c ∈ L.filter isCode, P c = true) : L.all P = true := by
  refine List.all_eq_true.mpr fun c hc => ?_
  have h := List.all_eq_true.mp h1 c hc
  rcases Bool.eq_false_or_eq_true (isCode c) with hi | hi
  · exact h2 c (List.mem_filter.mpr ⟨hc, hi⟩)
  · simpa [hi] using h
set_option maxRecDepth 65536 in
theorem w_c0 : (Jvm.Cond.code x code maxLocals ret).before args0 about1 = true := code_word (m := ⟨1, 1⟩) (meth := k1m1) (c := k1c1) (by decide +kernel) rfl rfl rfl (by decide +kernel)
set_option maxRecDepth 65536 in
theorem w_c1 : (Jvm.Cond.code ({ cls := "com/example/tierbook/tierbook/cli/FlagNamedPinLaw", name := "str", desc := "([CI)Ljava/lang/String;" } : Jvm.MethodName) method_5_code (2 : Nat) (Option.some (Jvm.ClassFile.FieldType.object "java/lang/String"))).before args0 about1 = true := code_word (m := ⟨1, 4⟩) (meth := k1m4) (c := k1c4) (by decide +kernel) rfl rfl rfl (by decide +kernel)
set_option maxRecDepth 65536 in
theorem w_c2 : (Jvm.Cond.code ({ cls := "java/lang/String", name := "<init>", desc := "([C)V" } : Jvm.MethodName) jdk_42_method_3_code (2 : Nat) (Option.none : Option Jvm.ClassFile.FieldType)).before args0 about1 = true := code_word (m := ⟨7, 1⟩) (meth := k7m1) (c := k7c1) (by decide +kernel) rfl rfl rfl (by decide +kernel)
set_option maxRecDepth 65536 in
theorem w_c3 : (Jvm.Cond.code ({ cls := "java/lang/String", name := "<init>", desc := "([CIILjava/lang/Void;)V" } : Jvm.MethodName) jdk_42_method_149_code (6 : Nat) (Option.none : Option Jvm.ClassFile.FieldType)).before args0 about1 = true := code_word (m := ⟨7, 5⟩) (meth := k7m5) (c := k7c5) (by decide +kernel) rfl rfl rfl (by decide +kernel)
set_option maxRecDepth 65536 in
theorem w_c4 : (Jvm.Cond.code ({ cls := "java/lang/Object", name := "<init>", desc := "()V" } : Jvm.MethodName) object_method_1_code (1 : Nat) (Option.none : Option Jvm.ClassFile.FieldType)).before args0 about1 = true := code_word (m := ⟨0, 0⟩) (meth := k0m0) (c := k0c0) (by decide +kernel) rfl rfl rfl (by decide +kernel)
set_option maxRecDepth 65536 in
theorem w_c5 : (Jvm.Cond.code ({ cls := "java/lang/String", name := "equals", desc := "(Ljava/lang/Object;)Z" } : Jvm.MethodName) jdk_42_method_66_code (3 : Nat) (Option.some Jvm.ClassFile.FieldType.boolean)).before args0 about1 = true := code_word (m := ⟨7, 4⟩) (meth := k7m4) (c := k7c4) (by decide +kernel) rfl rfl rfl (by decide +kernel)
set_option maxRecDepth 65536 in
theorem w_c6 : (Jvm.Cond.code ({ cls := "java/lang/StringLatin1", name := "equals", desc := "([B[B)Z" } : Jvm.MethodName) jdk_43_method_13_code (3 : Nat) (Option.some Jvm.ClassFile.FieldType.boolean)).before args0 about1 = true := code_word (m := ⟨8, 2⟩) (meth := k8m2) (c := k8c2) (by decide +kernel) rfl rfl rfl (by decide +kernel)
set_option maxRecDepth 65536 in
theorem w_c7 : (Jvm.Cond.code ({ cls := "com/example/tierbook/tierbook/cli/Flag", name := "named", desc := "(Ljava/lang/String;)Lcom/example/tierbook/tierbook/cli/Flag;" } : Jvm.MethodName) prog_5_method_4_code (5 : Nat) (Option.some (Jvm.ClassFile.FieldType.object "com/example/tierbook/tierbook/cli/Flag"))).before args0 about1 = true := code_word (m := ⟨10, 1⟩) (meth := k10m1) (c := k10c1) (by decide +kernel) rfl rfl rfl (by decide +kernel)
set_option maxRecDepth 65536 in
theorem w_c8 : (Jvm.Cond.code ({ cls := "com/example/tierbook/tierbook/cli/Flag", name := "values", desc := "()[Lcom/example/tierbook/tierbook/cli/Flag;" } : Jvm.MethodName) prog_5_method_1_code (0 : Nat) (Option.some (Jvm.ClassFile.FieldType.array (Jvm.ClassFile.FieldType.object "com/example/tierbook/tierbook/cli/Flag")))).before args0 about1 = true := code_word (m := ⟨10, 0⟩) (meth := k10m0) (c := k10c0) (by decide +kernel) rfl rfl rfl (by decide +kernel)
set_option maxRecDepth 65536 in
theorem w_c9 : (Jvm.Cond.code ({ cls := "java/lang/String", name := "length", desc := "()I" } : Jvm.MethodName) jdk_42_method_54_code (1 : Nat) (Option.some Jvm.ClassFile.FieldType.int)).before args0 about1 = true := code_word (m := ⟨7, 2⟩) (meth := k7m2) (c := k7c2) (by decide +kernel) rfl rfl rfl (by decide +kernel)
set_option maxRecDepth 65536 in
theorem w_c10 : (Jvm.Cond.code ({ cls := "java/lang/String", name := "coder", desc := "()B" } : Jvm.MethodName) jdk_42_method_152_code (1 : Nat) (Option.some Jvm.ClassFile.FieldType.byte)).before args0 about1 = true := code_word (m := ⟨7, 6⟩) (meth := k7m6) (c := k7c6) (by decide +kernel) rfl rfl rfl (by decide +kernel)
set_option maxRecDepth 65536 in
theorem w_c11 : (Jvm.Cond.code ({ cls := "com/example/tierbook/tierbook/cli/FlagNamedPinLaw", name := "version", desc := "([C)V" } : Jvm.MethodName) method_4_code (1 : Nat) (Option.none : Option Jvm.ClassFile.FieldType)).before args0 about1 = true := code_word (m := ⟨1, 3⟩) (meth := k1m3) (c := k1c3) (by decide +kernel) rfl rfl rfl (by decide +kernel)
set_option maxRecDepth 65536 in
theorem w_c12 : (Jvm.Cond.code ({ cls := "java/lang/StringUTF16", name := "compress", desc := "([CII)[B" } : Jvm.MethodName) jdk_52_method_16_code (6 : Nat) (Option.some (Jvm.ClassFile.FieldType.array Jvm.ClassFile.FieldType.byte))).before args0 about1 = true := code_word (m := ⟨12, 8⟩) (meth := k12m8) (c := k12c8) (by decide +kernel) rfl rfl rfl (by decide +kernel)
set_option maxRecDepth 65536 in
theorem w_c13 : (Jvm.Cond.code ({ cls := "java/lang/StringUTF16", name := "compress", desc := "([CI[BII)I" } : Jvm.MethodName) jdk_52_method_21_code (7 : Nat) (Option.some Jvm.ClassFile.FieldType.int)).before args0 about1 = true := code_word (m := ⟨12, 9⟩) (meth := k12m9) (c := k12c9) (by decide +kernel) rfl rfl rfl (by decide +kernel)
set_option maxRecDepth 65536 in
theorem w_c14 : (Jvm.Cond.code ({ cls := "java/lang/StringUTF16", name := "coderFromArrayLen", desc := "([BI)B" } : Jvm.MethodName) jdk_52_method_15_code (2 : Nat) (Option.some Jvm.ClassFile.FieldType.byte)).before args0 about1 = true := code_word (m := ⟨12, 7⟩) (meth := k12m7) (c := k12c7) (by decide +kernel) rfl rfl rfl (by decide +kernel)
set_option maxRecDepth 65536 in
theorem w_c15 : (Jvm.Cond.code ({ cls := "java/lang/String", name := "charAt", desc := "(I)C" } : Jvm.MethodName) jdk_42_method_56_code (2 : Nat) (Option.some Jvm.ClassFile.FieldType.char)).before args0 about1 = true := code_word (m := ⟨7, 3⟩) (meth := k7m3) (c := k7c3) (by decide +kernel) rfl rfl rfl (by decide +kernel)
set_option maxRecDepth 65536 in
theorem w_c16 : (Jvm.Cond.code ({ cls := "java/lang/String", name := "isLatin1", desc := "()Z" } : Jvm.MethodName) jdk_42_method_154_code (1 : Nat) (Option.some Jvm.ClassFile.FieldType.boolean)).before args0 about1 = true := code_word (m := ⟨7, 7⟩) (meth := k7m7) (c := k7c7) (by decide +kernel) rfl rfl rfl (by decide +kernel)
set_option maxRecDepth 65536 in
theorem w_c17 : (Jvm.Cond.code ({ cls := "java/lang/StringLatin1", name := "charAt", desc := "([BI)C" } : Jvm.MethodName) jdk_43_method_2_code (2 : Nat) (Option.some Jvm.ClassFile.FieldType.char)).before args0 about1 = true := code_word (m := ⟨8, 1⟩) (meth := k8m1) (c := k8c1) (by decide +kernel) rfl rfl rfl (by decide +kernel)
set_option maxRecDepth 65536 in
theorem w_c18 : (Jvm.Cond.code ({ cls := "java/lang/String", name := "checkIndex", desc := "(II)V" } : Jvm.MethodName) jdk_42_method_155_code (2 : Nat) (Option.none : Option Jvm.ClassFile.FieldType)).before args0 about1 = true := code_word (m := ⟨7, 8⟩) (meth := k7m8) (c := k7c8) (by decide +kernel) rfl rfl rfl (by decide +kernel)
set_option maxRecDepth 65536 in
theorem w_c19 : (Jvm.Cond.code ({ cls := "jdk/internal/util/Preconditions", name := "checkIndex", desc := "(IILjava/util/function/BiFunction;)I" } : Jvm.MethodName) jdk_41_method_11_code (3 : Nat) (Option.some Jvm.ClassFile.FieldType.int)).before args0 about1 = true := code_word (m := ⟨13, 1⟩) (meth := k13m1) (c := k13c1) (by decide +kernel) rfl rfl rfl (by decide +kernel)
set_option maxRecDepth 65536 in
theorem w_c20 : (Jvm.Cond.code ({ cls := "java/lang/StringUTF16", name := "toBytes", desc := "([CII)[B" } : Jvm.MethodName) jdk_52_method_14_code (5 : Nat) (Option.some (Jvm.ClassFile.FieldType.array Jvm.ClassFile.FieldType.byte))).before args0 about1 = true := code_word (m := ⟨12, 6⟩) (meth := k12m6) (c := k12c6) (by decide +kernel) rfl rfl rfl (by decide +kernel)
set_option maxRecDepth 65536 in
theorem w_c21 : (Jvm.Cond.code ({ cls := "java/lang/StringUTF16", name := "newBytesFor", desc := "(I)[B" } : Jvm.MethodName) jdk_52_method_2_code (1 : Nat) (Option.some (Jvm.ClassFile.FieldType.array Jvm.ClassFile.FieldType.byte))).before args0 about1 = true := code_word (m := ⟨12, 1⟩) (meth := k12m1) (c := k12c1) (by decide +kernel) rfl rfl rfl (by decide +kernel)
set_option maxRecDepth 65536 in
theorem w_c22 : (Jvm.Cond.code ({ cls := "java/lang/StringUTF16", name := "newBytesLength", desc := "(I)I" } : Jvm.MethodName) jdk_52_method_3_code (1 : Nat) (Option.some Jvm.ClassFile.FieldType.int)).before args0 about1 = true := code_word (m := ⟨12, 2⟩) (meth := k12m2) (c := k12c2) (by decide +kernel) rfl rfl rfl (by decide +kernel)
set_option maxRecDepth 65536 in
theorem w_c23 : (Jvm.Cond.code ({ cls := "java/lang/StringUTF16", name := "putChar", desc := "([BII)V" } : Jvm.MethodName) jdk_52_method_4_code (3 : Nat) (Option.none : Option Jvm.ClassFile.FieldType)).before args0 about1 = true := code_word (m := ⟨12, 3⟩) (meth := k12m3) (c := k12c3) (by decide +kernel) rfl rfl rfl (by decide +kernel)
set_option maxRecDepth 65536 in
theorem w_c24 : (Jvm.Cond.code ({ cls := "java/lang/StringUTF16", name := "getChar", desc := "([BI)C" } : Jvm.MethodName) jdk_52_method_5_code (2 : Nat) (Option.some Jvm.ClassFile.FieldType.char)).before args0 about1 = true := code_word (m := ⟨12, 4⟩) (meth := k12m4) (c := k12c4) (by decide +kernel) rfl rfl rfl (by decide +kernel)
set_option maxRecDepth 65536 in
theorem w_c25 : (Jvm.Cond.code ({ cls := "java/lang/StringUTF16", name := "charAt", desc := "([BI)C" } : Jvm.MethodName) jdk_52_method_83_code (2 : Nat) (Option.some Jvm.ClassFile.FieldType.char)).before args0 about1 = true := code_word (m := ⟨12, 10⟩) (meth := k12m10) (c := k12c10) (by decide +kernel) rfl rfl rfl (by decide +kernel)
set_option maxRecDepth 65536 in
theorem w_c26 : (Jvm.Cond.code ({ cls := "java/lang/StringUTF16", name := "checkIndex", desc := "(I[B)V" } : Jvm.MethodName) jdk_52_method_91_code (2 : Nat) (Option.none : Option Jvm.ClassFile.FieldType)).before args0 about1 = true := code_word (m := ⟨12, 11⟩) (meth := k12m11) (c := k12c11) (by decide +kernel) rfl rfl rfl (by decide +kernel)
set_option maxRecDepth 65536 in
theorem w_c27 : (Jvm.Cond.code ({ cls := "java/lang/StringUTF16", name := "length", desc := "([B)I" } : Jvm.MethodName) jdk_52_method_6_code (1 : Nat) (Option.some Jvm.ClassFile.FieldType.int)).before args0 about1 = true := code_word (m := ⟨12, 5⟩) (meth := k12m5) (c := k12c5) (by decide +kernel) rfl rfl rfl (by decide +kernel)
set_option maxRecDepth 65536 in
theorem w_c28 : (Jvm.Cond.code ({ cls := "com/example/tierbook/tierbook/cli/FlagNamedPinLaw", name := "help", desc := "([C)V" } : Jvm.MethodName) method_3_code (1 : Nat) (Option.none : Option Jvm.ClassFile.FieldType)).before args0 about1 = true := code_word (m := ⟨1, 2⟩) (meth := k1m2) (c := k1c2) (by decide +kernel) rfl rfl rfl (by decide +kernel)
def codes1 : List Jvm.Cond := [Jvm.Cond.code x code maxLocals ret, Jvm.Cond.code ({ cls := "com/example/tierbook/tierbook/cli/FlagNamedPinLaw", name := "str", desc := "([CI)Ljava/lang/String;" } : Jvm.MethodName) method_5_code (2 : Nat) (Option.some (Jvm.ClassFile.FieldType.object "java/lang/String")), Jvm.Cond.code ({ cls := "java/lang/String", name := "<init>", desc := "([C)V" } : Jvm.MethodName) jdk_42_method_3_code (2 : Nat) (Option.none : Option Jvm.ClassFile.FieldType), Jvm.Cond.code ({ cls := "java/lang/String", name := "<init>", desc := "([CIILjava/lang/Void;)V" } : Jvm.MethodName) jdk_42_method_149_code (6 : Nat) (Option.none : Option Jvm.ClassFile.FieldType), Jvm.Cond.code ({ cls := "java/lang/Object", name := "<init>", desc := "()V" } : Jvm.MethodName) object_method_1_code (1 : Nat) (Option.none : Option Jvm.ClassFile.FieldType), Jvm.Cond.code ({ cls := "java/lang/String", name := "equals", desc := "(Ljava/lang/Object;)Z" } : Jvm.MethodName) jdk_42_method_66_code (3 : Nat) (Option.some Jvm.ClassFile.FieldType.boolean), Jvm.Cond.code ({ cls := "java/lang/StringLatin1", name := "equals", desc := "([B[B)Z" } : Jvm.MethodName) jdk_43_method_13_code (3 : Nat) (Option.some Jvm.ClassFile.FieldType.boolean), Jvm.Cond.code ({ cls := "com/example/tierbook/tierbook/cli/Flag", name := "named", desc := "(Ljava/lang/String;)Lcom/example/tierbook/tierbook/cli/Flag;" } : Jvm.MethodName) prog_5_method_4_code (5 : Nat) (Option.some (Jvm.ClassFile.FieldType.object "com/example/tierbook/tierbook/cli/Flag")), Jvm.Cond.code ({ cls := "com/example/tierbook/tierbook/cli/Flag", name := "values", desc := "()[Lcom/example/tierbook/tierbook/cli/Flag;" } : Jvm.MethodName) prog_5_method_1_code (0 : Nat) (Option.some (Jvm.ClassFile.FieldType.array (Jvm.ClassFile.FieldType.object "com/example/tierbook/tierbook/cli/Flag"))), Jvm.Cond.code ({ cls := "java/lang/String", name := "length", desc := "()I" } : Jvm.MethodName) jdk_42_method_54_code (1 : Nat) (Option.some Jvm.ClassFile.FieldType.int), Jvm.Cond.code ({ cls := "java/lang/String", name := "coder", desc := "()B" } : Jvm.MethodName) jdk_42_method_152_code (1 : Nat) (Option.some Jvm.ClassFile.FieldType.byte), Jvm.Cond.code ({ cls := "com/example/tierbook/tierbook/cli/FlagNamedPinLaw", name := "version", desc := "([C)V" } : Jvm.MethodName) method_4_code (1 : Nat) (Option.none : Option Jvm.ClassFile.FieldType), Jvm.Cond.code ({ cls := "java/lang/StringUTF16", name := "compress", desc := "([CII)[B" } : Jvm.MethodName) jdk_52_method_16_code (6 : Nat) (Option.some (Jvm.ClassFile.FieldType.array Jvm.ClassFile.FieldType.byte)), Jvm.Cond.code ({ cls := "java/lang/StringUTF16", name := "compress", desc := "([CI[BII)I" } : Jvm.MethodName) jdk_52_method_21_code (7 : Nat) (Option.some Jvm.ClassFile.FieldType.int), Jvm.Cond.code ({ cls := "java/lang/StringUTF16", name := "coderFromArrayLen", desc := "([BI)B" } : Jvm.MethodName) jdk_52_method_15_code (2 : Nat) (Option.some Jvm.ClassFile.FieldType.byte), Jvm.Cond.code ({ cls := "java/lang/String", name := "charAt", desc := "(I)C" } : Jvm.MethodName) jdk_42_method_56_code (2 : Nat) (Option.some Jvm.ClassFile.FieldType.char), Jvm.Cond.code ({ cls := "java/lang/String", name := "isLatin1", desc := "()Z" } : Jvm.MethodName) jdk_42_method_154_code (1 : Nat) (Option.some Jvm.ClassFile.FieldType.boolean), Jvm.Cond.code ({ cls := "java/lang/StringLatin1", name := "charAt", desc := "([BI)C" } : Jvm.MethodName) jdk_43_method_2_code (2 : Nat) (Option.some Jvm.ClassFile.FieldType.char), Jvm.Cond.code ({ cls := "java/lang/String", name := "checkIndex", desc := "(II)V" } : Jvm.MethodName) jdk_42_method_155_code (2 : Nat) (Option.none : Option Jvm.ClassFile.FieldType), Jvm.Cond.code ({ cls := "jdk/internal/util/Preconditions", name := "checkIndex", desc := "(IILjava/util/function/BiFunction;)I" } : Jvm.MethodName) jdk_41_method_11_code (3 : Nat) (Option.some Jvm.ClassFile.FieldType.int), Jvm.Cond.code ({ cls := "java/lang/StringUTF16", name := "toBytes", desc := "([CII)[B" } : Jvm.MethodName) jdk_52_method_14_code (5 : Nat) (Option.some (Jvm.ClassFile.FieldType.array Jvm.ClassFile.FieldType.byte)), Jvm.Cond.code ({ cls := "java/lang/StringUTF16", name := "newBytesFor", desc := "(I)[B" } : Jvm.MethodName) jdk_52_method_2_code (1 : Nat) (Option.some (Jvm.ClassFile.FieldType.array Jvm.ClassFile.FieldType.byte)), Jvm.Cond.code ({ cls := "java/lang/StringUTF16", name := "newBytesLength", desc := "(I)I" } : Jvm.MethodName) jdk_52_method_3_code (1 : Nat) (Option.some Jvm.ClassFile.FieldType.int), Jvm.Cond.code ({ cls := "java/lang/StringUTF16", name := "putChar", desc := "([BII)V" } : Jvm.MethodName) jdk_52_method_4_code (3 : Nat) (Option.none : Option Jvm.ClassFile.FieldType), Jvm.Cond.code ({ cls := "java/lang/StringUTF16", name := "getChar", desc := "([BI)C" } : Jvm.MethodName) jdk_52_method_5_code (2 : Nat) (Option.some Jvm.ClassFile.FieldType.char), Jvm.Cond.code ({ cls := "java/lang/StringUTF16", name := "charAt", desc := "([BI)C" } : Jvm.MethodName) jdk_52_method_83_code (2 : Nat) (Option.some Jvm.ClassFile.FieldType.char), Jvm.Cond.code ({ cls := "java/lang/StringUTF16", name := "checkIndex", desc := "(I[B)V" } : Jvm.MethodName) jdk_52_method_91_code (2 : Nat) (Option.none : Option Jvm.ClassFile.FieldType), Jvm.Cond.code ({ cls := "java/lang/StringUTF16", name := "length", desc := "([B)I" } : Jvm.MethodName) jdk_52_method_6_code (1 : Nat) (Option.some Jvm.ClassFile.FieldType.int), Jvm.Cond.code ({ cls := "com/example/tierbook/tierbook/cli/FlagNamedPinLaw", name := "help", desc := "([C)V" } : Jvm.MethodName) method_3_code (1 : Nat) (Option.none : Option Jvm.ClassFile.FieldType)]
set_option maxRecDepth 65536 in
theorem codes_eq : words1.filter isCode = codes1 := rfl
theorem w_codes : ∀ c ∈ words1.filter isCode, c.before args0 about1 = true := by
  rw [codes_eq]
  intro c hc
  simp only [codes1, List.mem_cons, List.not_mem_nil, or_false] at hc
  rcases hc with rfl | rfl | rfl | rfl | rfl | rfl | rfl | rfl | rfl | rfl | rfl | rfl | rfl | rfl | rfl | rfl | rfl | rfl | rfl | rfl | rfl | rfl | rfl | rfl | rfl | rfl | rfl | rfl | rfl
  · exact w_c0
  · exact w_c1
  · exact w_c2
  · exact w_c3
  · exact w_c4
  · exact w_c5
  · exact w_c6
  · exact w_c7
  · exact w_c8
  · exact w_c9
  · exact w_c10
  · exact w_c11
  · exact w_c12
  · exact w_c13
  · exact w_c14
  · exact w_c15
  · exact w_c16
  · exact w_c17
  · exact w_c18
  · exact w_c19
  · exact w_c20
  · exact w_c21
  · exact w_c22
  · exact w_c23
  · exact w_c24
  · exact w_c25
  · exact w_c26
  · exact w_c27
  · exact w_c28
set_option maxRecDepth 65536 in
theorem w_t1 : (words1.take 24).all (fun c => isCode c || c.before args0 about1) = true := by decide +kernel
set_option maxRecDepth 65536 in
theorem w_t2 : ((words1.drop 24).take 24).all (fun c => isCode c || c.before args0 about1) = true := by decide +kernel
set_option maxRecDepth 65536 in
theorem w_t3 : (((words1.drop 24).drop 24).take 24).all (fun c => isCode c || c.before args0 about1) = true := by decide +kernel
set_option maxRecDepth 65536 in
theorem w_t4 : ((((words1.drop 24).drop 24).drop 24).take 24).all (fun c => isCode c || c.before args0 about1) = true := by decide +kernel
set_option maxRecDepth 65536 in
theorem w_t5 : (((((words1.drop 24).drop 24).drop 24).drop 24).take 24).all (fun c => isCode c || c.before args0 about1) = true := by decide +kernel
set_option maxRecDepth 65536 in
theorem w_t6 : ((((((words1.drop 24).drop 24).drop 24).drop 24).drop 24).take 24).all (fun c => isCode c || c.before args0 about1) = true := by decide +kernel
set_option maxRecDepth 65536 in
theorem w_t7 : ((((((words1.drop 24).drop 24).drop 24).drop 24).drop 24).drop 24).all (fun c => isCode c || c.before args0 about1) = true := by decide +kernel
theorem w_tables : (allAtoms (Jvm.Cond.code x code maxLocals ret :: tables_1)).before args0 about1 = true := by
  rw [allAtoms_all]
  show words1.all (fun c => c.before args0 about1) = true
  refine all_split ?_ w_codes
  rw [← List.take_append_drop 24 words1, List.all_append, w_t1, ← List.take_append_drop 24 (words1.drop 24), List.all_append, w_t2, ← List.take_append_drop 24 ((words1.drop 24).drop 24), List.all_append, w_t3, ← List.take_append_drop 24 (((words1.drop 24).drop 24).drop 24), List.all_append, w_t4, ← List.take_append_drop 24 ((((words1.drop 24).drop 24).drop 24).drop 24), List.all_append, w_t5, ← List.take_append_drop 24 (((((words1.drop 24).drop 24).drop 24).drop 24).drop 24), List.all_append, w_t6, w_t7]
  rfl
set_option maxRecDepth 65536 in
theorem w_rest : rest_1_c.before args0 about1 = true := by decide +kernel
set_option maxRecDepth 65536 in
theorem w_case : (Jvm.Cond.and given_1 narrow_1).before args0 about1 = true := by decide +kernel
set_option maxRecDepth 65536 in
theorem w_consts : constsHeld consts_1 about1 := Jvm.Lit.constsHeldB_iff.mp (by decide +kernel)
theorem w_applies : (headSpec (Jvm.Cond.code x code maxLocals ret :: tables_1) room_1).applies x e0.platform about1 = true :=
  (Spec.applies_iff w_frames).mpr ⟨w_running, w_runnable, w_alone, w_named, w_hears, w_ripe, w_room, w_tables⟩
theorem atStart : AtStart classFile x code maxLocals ret World_1 tables_1 room_1 Calls_1 rest_1 Pre_1 launch0 p0 e0 about1 theMethod args0 below0 :=
  ⟨lists_1, trivial, launch0.admits_env _ _ _, launch0.least_env, fairChoices_fair.cas, fairChoices_fair.clock, w_frames, w_args, w_heap, w_applies, ⟨w_consts, trivial⟩, w_rest, w_case⟩
end start1
theorem witness_1 : WitnessClaimed_1 := ⟨start1.p0, start1.e0, start1.about1, start1.theMethod, start1.args0, start1.below0, start1.atStart⟩
end Jvm.Pilot.@@N@@
