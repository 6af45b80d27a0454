import JvmDerived
import JvmDerived.Pilot.@@N@@Statement
import JvmDerived.Pilot.@@N@@Code
set_option linter.unusedVariables false
set_option linter.unusedSimpArgs false
namespace Jvm.RoadKit
open Sem ClassFile Op Lib Jvm.Stand Jvm.Free Jvm.LawKit
section OwnGo
variable {p : Program} {l : Launch} {e : Env} {R : Room} {s : State} {m : MethodId} {args : Array Value} {below : List Frame} {meth : Method} {c : Code} {T T' : State} {locs : List Loc} {cells slots : Nat} {tb : Tables} {P : State → Outcome → Prop} {g g' : JFrame} {Z : State} {a0 : Array Value} {h h' : Heap}
/-- from here the run goes on to an end that P says -/
def Go (tb : Tables) (e : Env) (below : List Frame) (P : State → Outcome → Prop) (T : State) (g : JFrame) : Prop :=
  ∃ u o, Steps tb e below (T.setTop g) u ∧ u.status = .running ∧ Ended u below o ∧ P u o
theorem Go.st (st : ∀ target, Steps tb e below (T'.setTop g') target → Steps tb e below (T.setTop g) target) (k : Go tb e below P T' g') : Go tb e below P T g := by
  obtain ⟨u, o, h1, h2⟩ := k
  exact ⟨u, o, st u h1, h2⟩
theorem Go.tr (st : Steps tb e below (T.setTop g) (T'.setTop g')) (k : Go tb e below P T' g') : Go tb e below P T g := Go.st (fun _ h => st.trans h) k
theorem Go.cast (q : g = g') (k : Go tb e below P T g') : Go tb e below P T g := q ▸ k
/-- the end of a body that interns nothing -/
def FinP (s : State) (Q : Option Value → Heap → List Loc → Prop) (K N : Nat) (u : State) (o : Outcome) : Prop := ∃ v L, o = .returned v ∧ Q v u.heap L ∧ FrameEnd s o u L K N
theorem Go.retN {Q : Option Value → Heap → List Loc → Prop} {K N : Nat} (X : Stand p l e R s m args below meth c T locs cells slots) (hx : p.tables.exec = Jvm.exec) (hlk : meth.locks = false) {pc : Nat} {Ls : Array Slot} {z : Int32} {t : FieldType} {rest : List Value} (hret : meth.sig.returnType = some t)
    (hn : narrow t (.int z) = .int z) (ht : t = .int ∨ t = .boolean ∨ t = .byte ∨ t = .char ∨ t = .short) (hd : decode c.code pc = .ok (.ireturn, 1)) (hK : cells ≤ K) (hN : slots ≤ N) (eT : T.heap = h) (hQ : Q (some (.int z)) h locs) : Go p.tables e below (FinP s Q K N) T (mkF m pc Ls (.int z :: rest)) := by
  obtain ⟨fs, hr, hrun, hended, hW, hsame⟩ := X.leave (v := some (.int z)) (fun h => by rw [hret] at h; cases h) hlk
  exact ⟨_, _, retOut X hx hret hn (Or.inl ⟨rfl, ht, z, rfl⟩) hd hr, hrun, hended, _, _, rfl, (by rw [show (T.setFrames fs).heap = h from eT]; exact hQ), ⟨_, rfl⟩, hW, hsame.mono hK hN⟩
theorem Go.retL {Q : Option Value → Heap → List Loc → Prop} {K N : Nat} (X : Stand p l e R s m args below meth c T locs cells slots) (hx : p.tables.exec = Jvm.exec) (hlk : meth.locks = false) {pc : Nat} {Ls : Array Slot} {z : Int64} {rest : List Value} (hret : meth.sig.returnType = some .long)
    (hd : decode c.code pc = .ok (.lreturn, 1)) (hK : cells ≤ K) (hN : slots ≤ N) (eT : T.heap = h) (hQ : Q (some (.long z)) h locs) : Go p.tables e below (FinP s Q K N) T (mkF m pc Ls (.long z :: rest)) := by
  obtain ⟨fs, hr, hrun, hended, hW, hsame⟩ := X.leave (v := some (.long z)) (fun h => by rw [hret] at h; cases h) hlk
  exact ⟨_, _, retOut X hx hret rfl (Or.inr (Or.inl ⟨rfl, rfl, z, rfl⟩)) hd hr, hrun, hended, _, _, rfl, (by rw [show (T.setFrames fs).heap = h from eT]; exact hQ), ⟨_, rfl⟩, hW, hsame.mono hK hN⟩
theorem narrow_ref {t : FieldType} {w : Value} (ht : t.isReference = true) : narrow t w = w := by cases t <;> first | rfl | (cases w <;> rfl) | (simp [FieldType.isReference] at ht)
theorem Go.retA {Q : Option Value → Heap → List Loc → Prop} {K N : Nat} (X : Stand p l e R s m args below meth c T locs cells slots) (hx : p.tables.exec = Jvm.exec) (hlk : meth.locks = false) {pc : Nat} {Ls : Array Slot} {w : Value} {t : FieldType} {rest : List Value} (hret : meth.sig.returnType = some t)
    (ht : t.isReference = true) (hw : w.isRef = true) (hd : decode c.code pc = .ok (.areturn, 1)) (hK : cells ≤ K) (hN : slots ≤ N) (eT : T.heap = h) (hQ : Q (some w) h locs) : Go p.tables e below (FinP s Q K N) T (mkF m pc Ls (w :: rest)) := by
  obtain ⟨fs, hr, hrun, hended, hW, hsame⟩ := X.leave (v := some w) (fun h => by rw [hret] at h; cases h) hlk
  exact ⟨_, _, retOut X hx hret (narrow_ref ht) (Or.inr (Or.inr (Or.inr (Or.inr ⟨rfl, ht, hw⟩)))) hd hr, hrun, hended, _, _, rfl, (by rw [show (T.setFrames fs).heap = h from eT]; exact hQ), ⟨_, rfl⟩, hW, hsame.mono hK hN⟩
theorem Go.retV {Q : Option Value → Heap → List Loc → Prop} {K N : Nat} (X : Stand p l e R s m args below meth c T locs cells slots) (hx : p.tables.exec = Jvm.exec) (hlk : meth.locks = false) {pc : Nat} {Ls : Array Slot} (hret : meth.sig.returnType = none)
    (hd : decode c.code pc = .ok (.return_, 1)) (hK : cells ≤ K) (hN : slots ≤ N) (eT : T.heap = h) (hQ : Q none h locs) : Go p.tables e below (FinP s Q K N) T (mkF m pc Ls []) := by
  obtain ⟨fs, hr, hrun, hended, hW, hsame⟩ := X.leave (v := none) (fun _ => rfl) hlk
  exact ⟨_, _, X.returnOut hx hret hd hr, hrun, hended, _, _, rfl, (by rw [show (T.setFrames fs).heap = h from eT]; exact hQ), ⟨_, rfl⟩, hW, hsame.mono hK hN⟩
/-- a body's contract: called with as' at the heap h0 it returns as Q says -/
def Con (l : Launch) (Z : State) (y : MethodName) (bytes : ByteArray) (maxL : Nat) (ret : Option FieldType) (ws : List Cond) (rm : Room) (as' : Array Value) (h0 : Heap) (Q : Option Value → Heap → List Loc → Prop) : Prop :=
  MetFree l y (head1 (Cond.code y bytes maxL ret :: ws) rm) (fun a U => a = as' ∧ Z.Warmed39 U.vm ∧ U.heap = h0) (fun _ _ _ _ _ => True) (fun _ U o U' => ∃ v L, o = .returned v ∧ Q v U'.heap L ∧ FrameEnd U o U' L rm.cells rm.slots)
theorem Con.enter {y : MethodName} {bytes : ByteArray} {maxL : Nat} {ret : Option FieldType} {ws : List Cond} {rm : Room} {as' : Array Value} {h0 : Heap} {Q : Option Value → Heap → List Loc → Prop} (hp : plainFor y = true)
    (H : ∀ (p : Program) (e : Env) (s : State) (m : MethodId) (below : List Frame) (meth : Method) (c : Code) (s₁ : State), Stand p l e rm s m as' below meth c s₁ [] 0 0 → p.tables.exec = Jvm.exec → Z.Warmed39 s.vm → c.code = bytes → c.maxLocals = maxL → meth.sig.returnType = ret → meth.locks = false → s.vm.findClass y.cls = some m.cls → meth.name = y.name → s₁.heap = h0 →
      Go p.tables e below (FinP s Q rm.cells rm.slots) s₁ (entryFrame m as' maxL)) : Con l Z y bytes maxL ret ws rm as' h0 Q := by
  refine MetFree.of_bodySF hp hisR ?_
  intro p e s m args below meth c s₁ Bd hml0 hP hK
  obtain ⟨rfl, hZ, hh⟩ := hP
  exact H p e s m below meth c s₁ (Stand.of_body Bd) Bd.exec hZ Bd.bytes hml0 Bd.returns Bd.notSynchronized (findClass_of_methodNamed Bd.named) (name_of_methodNamed Bd.named Bd.method).1 (by rw [← hh, Bd.state]; rfl)
theorem Con.mono {y : MethodName} {bytes : ByteArray} {maxL : Nat} {ret : Option FieldType} {ws : List Cond} {rm : Room} {as' : Array Value} {h0 : Heap} {Q Q' : Option Value → Heap → List Loc → Prop} (C : Con l Z y bytes maxL ret ws rm as' h0 Q) (H : ∀ v h L, Q v h L → Q' v h L) : Con l Z y bytes maxL ret ws rm as' h0 Q' := by
  intro p e ha hc hk s m args below hf happ hP hK
  obtain ⟨n, o, h1, h2, h3, v, L, rfl, hq, hr⟩ := C p e ha hc hk s m args below hf happ hP hK
  exact ⟨n, _, h1, h2, h3, v, L, rfl, H _ _ _ hq, hr⟩
variable {y z : MethodName} {bytes : ByteArray} {maxL : Nat} {ret : Option FieldType} {rm : Room} {as' : Array Value} {Q : Option Value → Heap → List Loc → Prop} {W len : Nat} {own C owner : String} {index : Nat} {argsL rest : List Value}
/-- behind a call -/
theorem Go.back {vs : Array Value} {vm1 : Vm → Pt} {n : Nat} (H : ∃ (v : Option Value) (vm₁ : Vm) (B : Pt), s.WarmedH vm₁ ∧ Stand p l e R s m args below meth c B.U B.locs B.cells B.slots ∧ (∃ L, Q v B.U.heap L ∧ B.locs = locs ++ L ∧ B.cells = cells + rm.cells ∧ B.slots = slots + rm.slots) ∧
      Steps p.tables e below (T.setTop g) (B.U.setTop { g with pc := g.pc + n, stack := v.toList ++ rest }))
    (k : ∀ (v : Option Value) (T' : State) (h' : Heap) (L : List Loc), Stand p l e R s m args below meth c T' (locs ++ L) (cells + rm.cells) (slots + rm.slots) → T'.heap = h' → Q v h' L → Go p.tables e below P T' { g with pc := g.pc + n, stack := v.toList ++ rest }) : Go p.tables e below P T g := by
  obtain ⟨v, _, ⟨U, L1, k1, n1⟩, -, X', ⟨L, hQ, e1, e2, e3⟩, st⟩ := H
  have e1' : L1 = locs ++ L := e1
  have e2' : k1 = cells + rm.cells := e2
  have e3' : n1 = slots + rm.slots := e3
  subst e1' e2' e3'
  exact Go.tr st (k v U _ L X' rfl hQ)
theorem Go.callSt (X : Stand p l e R s m args below meth c T locs cells slots) (hx : p.tables.exec = Jvm.exec) (hZ : Z.Warmed39 s.vm) (hown : s.vm.findClass own = some m.cls) (eT : T.heap = h)
    (w1 : (Cond.methodLink own index y).before a0 Z = true) (w2 : (Cond.static y).before a0 Z = true) (w3 : (Cond.initialized y.cls).before a0 Z = true) (w4 : (Cond.code y bytes maxL ret).before a0 Z = true) (hy : y.cls ≠ "java/lang/invoke/MethodHandle" ∧ y.cls ≠ "java/lang/invoke/VarHandle")
    (hM : Con l Z y bytes maxL ret [] rm as' h Q) (ha : argsL.toArray = as') (hlen : ∀ sig, parseMethodDescriptor y.desc = some sig → argsL.length = sig.parameters.length) (hg : g.method = m) (hsize : g.locals.size = c.maxLocals) (hst : g.stack = argsL.reverse ++ rest)
    (hW : 2 * g.monitorRoom + (rest.map fun v => v.category).sum ≤ W) (hf : rm.frames + 1 ≤ R.frames) (hl : W + (maxL + 11) + rm.locals ≤ R.locals) (hc : cells + rm.cells ≤ R.cells) (hs : slots + rm.slots ≤ R.slots) (hd : decode c.code g.pc = .ok (.invokestatic index, 3))
    (k : ∀ (v : Option Value) (T' : State) (h' : Heap) (L : List Loc), Stand p l e R s m args below meth c T' (locs ++ L) (cells + rm.cells) (slots + rm.slots) → T'.heap = h' → Q v h' L → Go p.tables e below P T' { g with pc := g.pc + 3, stack := v.toList ++ rest }) : Go p.tables e below P T g := by
  obtain ⟨v, vm₁, B, q1, q2, q3, q4⟩ := Jvm.LawKit.callS X hx (y := y) (bytes := bytes) (maxL := maxL) (ret := ret) hown (mvT hZ w1) (mvT hZ w2) (mvT hZ w3) (mvT hZ w4) hy (backOf (W := W) (a0 := a0) hM hZ w4 w3 hf hl) (g := g) hg hsize (argsL := argsL) (rest := rest) hlen hst hW hd (fun _ _ => ⟨ha, eT, hc, hs⟩)
  exact Go.back (vs := as') (vm1 := fun _ => ⟨T, [], 0, 0⟩) ⟨v, vm₁, B, q1, q2, q3, q4 _ (Steps.refl _)⟩ k
theorem Go.callSp (X : Stand p l e R s m args below meth c T locs cells slots) (hx : p.tables.exec = Jvm.exec) (hZ : Z.Warmed39 s.vm) (hown : s.vm.findClass own = some m.cls) (eT : T.heap = h) (hy1 : y.name = "<init>")
    (w1 : (Cond.methodLink own index y).before a0 Z = true) (w2 : (Cond.instanceMethod y).before a0 Z = true) (w3 : (Cond.initialized y.cls).before a0 Z = true) (w4 : (Cond.code y bytes maxL none).before a0 Z = true) (hy : y.cls ≠ "java/lang/invoke/MethodHandle" ∧ y.cls ≠ "java/lang/invoke/VarHandle")
    {a : Addr} (hM : Con l Z y bytes maxL none [] rm as' h Q) (ha : (Value.ref a :: argsL).toArray = as') (hlen : ∀ sig, parseMethodDescriptor y.desc = some sig → argsL.length = sig.parameters.length) (hg : g.method = m) (hsize : g.locals.size = c.maxLocals) (hst : g.stack = argsL.reverse ++ .ref a :: rest)
    (hW : 2 * g.monitorRoom + (rest.map fun v => v.category).sum ≤ W) (hf : rm.frames + 1 ≤ R.frames) (hl : W + (maxL + 11) + rm.locals ≤ R.locals) (hc : cells + rm.cells ≤ R.cells) (hs : slots + rm.slots ≤ R.slots) (hd : decode c.code g.pc = .ok (.invokespecial index, 3))
    (k : ∀ (v : Option Value) (T' : State) (h' : Heap) (L : List Loc), Stand p l e R s m args below meth c T' (locs ++ L) (cells + rm.cells) (slots + rm.slots) → T'.heap = h' → Q v h' L → Go p.tables e below P T' { g with pc := g.pc + 3, stack := v.toList ++ rest }) : Go p.tables e below P T g := by
  exact Go.back (vs := as') (vm1 := fun _ => ⟨T, [], 0, 0⟩) (X.specialBack hx (y := y) hy1 hown (mvT hZ w1) (mvT hZ w2) (mvT hZ w4) hy (backOf (W := W) (a0 := a0) hM hZ w4 w3 hf hl) (g := g) hg hsize (Steps.refl _) (a := a) (argsL := argsL) (rest := rest) hlen hst hW hd (fun _ _ => ⟨ha, eT, hc, hs⟩)) k
theorem Go.callV (X : Stand p l e R s m args below meth c T locs cells slots) (hx : p.tables.exec = Jvm.exec) (hZ : Z.Warmed39 s.vm) (hown : s.vm.findClass own = some m.cls) (eT : T.heap = h)
    (w1 : (Cond.methodLink own index y).before a0 Z = true) (w2 : (Cond.declares y).before a0 Z = true) (w5 : (Cond.selects C y z).before a0 Z = true) (w6 : (Cond.instanceMethod z).before a0 Z = true) (w3 : (Cond.initialized z.cls).before a0 Z = true) (w4 : (Cond.code z bytes maxL ret).before a0 Z = true)
    (hnf : NotFace s y) (hy : y.cls ≠ "java/lang/invoke/MethodHandle" ∧ y.cls ≠ "java/lang/invoke/VarHandle")
    {a : Addr} (E : Exa Z h a C) (hM : Con l Z z bytes maxL ret [] rm as' h Q) (ha : (Value.ref a :: argsL).toArray = as') (hlen : ∀ sig, parseMethodDescriptor y.desc = some sig → argsL.length = sig.parameters.length) (hg : g.method = m) (hsize : g.locals.size = c.maxLocals) (hst : g.stack = argsL.reverse ++ .ref a :: rest)
    (hW : 2 * g.monitorRoom + (rest.map fun v => v.category).sum ≤ W) (hf : rm.frames + 1 ≤ R.frames) (hl : W + (maxL + 11) + rm.locals ≤ R.locals) (hc : cells + rm.cells ≤ R.cells) (hs : slots + rm.slots ≤ R.slots) (hd : decode c.code g.pc = .ok (.invokevirtual index, 3))
    (k : ∀ (v : Option Value) (T' : State) (h' : Heap) (L : List Loc), Stand p l e R s m args below meth c T' (locs ++ L) (cells + rm.cells) (slots + rm.slots) → T'.heap = h' → Q v h' L → Go p.tables e below P T' { g with pc := g.pc + 3, stack := v.toList ++ rest }) : Go p.tables e below P T g := by
  obtain ⟨cq, kq, qa, qb, qc⟩ := isOf hZ eT E
  exact Go.back (vs := as') (vm1 := fun _ => ⟨T, [], 0, 0⟩) (X.virtualBack hx (y := y) (z := z) hown (mvT hZ w1) (mvT hZ w2) hnf (mvT hZ w5) (mvT hZ w6) hy (backOf (W := W) (a0 := a0) hM hZ w4 w3 hf hl) qa qc (g := g) hg hsize (Steps.refl _) (argsL := argsL) (rest := rest) hlen hst hW hd (fun _ _ => ⟨ha, eT, hc, hs⟩)) k
theorem Go.callUp (X : Stand p l e R s m args below meth c T locs cells slots) (hx : p.tables.exec = Jvm.exec) (hZ : Z.Warmed39 s.vm) (hown : s.vm.findClass own = some m.cls) (eT : T.heap = h)
    (w1 : (Cond.methodLink own index y).before a0 Z = true) (w2 : (Cond.sameMethod y.cls owner y.name y.desc).before a0 Z = true) (w7 : (Cond.declares ⟨owner, y.name, y.desc⟩).before a0 Z = true) (hy : owner ≠ "java/lang/invoke/MethodHandle" ∧ owner ≠ "java/lang/invoke/VarHandle")
    (w5 : (Cond.selects C y z).before a0 Z = true) (w6 : (Cond.instanceMethod z).before a0 Z = true) (w3 : (Cond.initialized z.cls).before a0 Z = true) (w4 : (Cond.code z bytes maxL ret).before a0 Z = true)
    {a : Addr} (E : Exa Z h a C) (hM : Con l Z z bytes maxL ret [] rm as' h Q) (ha : (Value.ref a :: argsL).toArray = as') (hlen : ∀ sig, parseMethodDescriptor y.desc = some sig → argsL.length = sig.parameters.length) (hg : g.method = m) (hsize : g.locals.size = c.maxLocals) (hst : g.stack = argsL.reverse ++ .ref a :: rest)
    (hW : 2 * g.monitorRoom + (rest.map fun v => v.category).sum ≤ W) (hf : rm.frames + 1 ≤ R.frames) (hl : W + (maxL + 11) + rm.locals ≤ R.locals) (hc : cells + rm.cells ≤ R.cells) (hs : slots + rm.slots ≤ R.slots) (hd : decode c.code g.pc = .ok (.invokevirtual index, 3))
    (k : ∀ (v : Option Value) (T' : State) (h' : Heap) (L : List Loc), Stand p l e R s m args below meth c T' (locs ++ L) (cells + rm.cells) (slots + rm.slots) → T'.heap = h' → Q v h' L → Go p.tables e below P T' { g with pc := g.pc + 3, stack := v.toList ++ rest }) : Go p.tables e below P T g := by
  obtain ⟨cq, kq, qa, qb, qc⟩ := isOf hZ eT E
  exact Go.back (vs := as') (vm1 := fun _ => ⟨T, [], 0, 0⟩) (X.virtualBackUp hx (x := y) (y := z) hown (mvT hZ w1) (mvT hZ w2) (mvT hZ w7) hy (mvT hZ w5) (mvT hZ w6) (backOf (W := W) (a0 := a0) hM hZ w4 w3 hf hl) qa qc (g := g) hg hsize (Steps.refl _) (argsL := argsL) (rest := rest) hlen hst hW hd (fun _ _ => ⟨ha, eT, hc, hs⟩)) k
theorem ldCV (X : Stand p l e R s m args below meth c T locs cells slots) (hx : p.tables.exec = Jvm.exec) (hZ : Z.Warmed39 s.vm) (eT : T.heap = h) {a : Addr} {k : ClassId} {z : Int32} {vs : List Value} {d : Value} (F : Arv Z h a k .char z vs d) {j : Int32} (hj : ¬ j < 0 ∧ j < z) {v : Value} (hv : vs.getD j.toNatClampNeg d = v) {g : JFrame} (hg : g.method = m) {rest : List Value} (hs : g.stack = .int j :: .ref a :: rest) (hd : decode c.code g.pc = .ok (.caload, 1)) {target : State}
    (kk : Steps p.tables e below (T.setTop { g with pc := g.pc + 1, stack := v :: rest }) target) : Steps p.tables e below (T.setTop g) target := by
  obtain ⟨cl, A, q1, S, q3, H, G⟩ := F
  exact X.caload hx (j := j) (v := v) (by rw [eT]; exact A.1) (State.isArrayOf_alike hZ.alike A.2.1) A.2.2 (inb_of S hj) (H.at (inb_of S hj) hv) hg hs hd _ kk
theorem ldBV (X : Stand p l e R s m args below meth c T locs cells slots) (hx : p.tables.exec = Jvm.exec) (hZ : Z.Warmed39 s.vm) (eT : T.heap = h) {a : Addr} {k : ClassId} {z : Int32} {vs : List Value} {d : Value} (F : Arv Z h a k .byte z vs d) {j : Int32} (hj : ¬ j < 0 ∧ j < z) {v : Value} (hv : vs.getD j.toNatClampNeg d = v) {g : JFrame} (hg : g.method = m) {rest : List Value} (hs : g.stack = .int j :: .ref a :: rest) (hd : decode c.code g.pc = .ok (.baload, 1)) {target : State}
    (kk : Steps p.tables e below (T.setTop { g with pc := g.pc + 1, stack := v :: rest }) target) : Steps p.tables e below (T.setTop g) target := by
  obtain ⟨cl, A, q1, S, q3, H, G⟩ := F
  exact X.baloadBytes hx (j := j) (v := v) (by rw [eT]; exact A.1) (State.isArrayOf_alike hZ.alike A.2.1) A.2.2 (inb_of S hj) (H.at (inb_of S hj) hv) hg hs hd _ kk
theorem ldIV (X : Stand p l e R s m args below meth c T locs cells slots) (hx : p.tables.exec = Jvm.exec) (hZ : Z.Warmed39 s.vm) (eT : T.heap = h) {a : Addr} {k : ClassId} {z : Int32} {vs : List Value} {d : Value} (F : Arv Z h a k .int z vs d) {j : Int32} (hj : ¬ j < 0 ∧ j < z) {v : Value} (hv : vs.getD j.toNatClampNeg d = v) {g : JFrame} (hg : g.method = m) {rest : List Value} (hs : g.stack = .int j :: .ref a :: rest) (hd : decode c.code g.pc = .ok (.iaload, 1)) {target : State}
    (kk : Steps p.tables e below (T.setTop { g with pc := g.pc + 1, stack := v :: rest }) target) : Steps p.tables e below (T.setTop g) target := by
  obtain ⟨cl, A, q1, S, q3, H, G⟩ := F
  exact X.iaload hx (j := j) (v := v) (by rw [eT]; exact A.1) (State.isArrayOf_alike hZ.alike A.2.1) A.2.2 (inb_of S hj) (H.at (inb_of S hj) hv) hg hs hd _ kk
theorem ldRV (X : Stand p l e R s m args below meth c T locs cells slots) (hx : p.tables.exec = Jvm.exec) (hZ : Z.Warmed39 s.vm) (eT : T.heap = h) {a : Addr} {k : ClassId} {C : String} {z : Int32} {vs : List Value} {d : Value} (F : Arv Z h a k (.object C) z vs d) {j : Int32} (hj : ¬ j < 0 ∧ j < z) {v : Value} (hv : vs.getD j.toNatClampNeg d = v) {g : JFrame} (hg : g.method = m) {rest : List Value} (hs : g.stack = .int j :: .ref a :: rest) (hd : decode c.code g.pc = .ok (.aaload, 1)) {target : State}
    (kk : Steps p.tables e below (T.setTop { g with pc := g.pc + 1, stack := v :: rest }) target) : Steps p.tables e below (T.setTop g) target := by
  obtain ⟨cl, A, q1, S, q3, H, G⟩ := F
  exact X.aaload hx (j := j) (v := v) (by rw [eT]; exact A.1) (State.isArrayOf_alike hZ.alike A.2.1) rfl A.2.2 (inb_of S hj) (H.at (inb_of S hj) hv) hg hs hd _ kk
theorem lenV (X : Stand p l e R s m args below meth c T locs cells slots) (hx : p.tables.exec = Jvm.exec) (hZ : Z.Warmed39 s.vm) (eT : T.heap = h) {a : Addr} {k : ClassId} {ty : FieldType} {z : Int32} {vs : List Value} {d : Value} (F : Arv Z h a k ty z vs d) {g : JFrame} (hg : g.method = m) {rest : List Value} (hs : g.stack = .ref a :: rest) (hd : decode c.code g.pc = .ok (.arraylength, 1)) {target : State}
    (kk : Steps p.tables e below (T.setTop { g with pc := g.pc + 1, stack := .int z :: rest }) target) : Steps p.tables e below (T.setTop g) target := by
  obtain ⟨cl, A, q1, S, q3, H, G⟩ := F
  refine X.arraylength hx (by rw [eT]; exact A.1) (State.isArrayOf_alike hZ.alike A.2.1) hg hs hd _ ?_
  rw [len_of S q3]; exact kk
theorem stCV (X : Stand p l e R s m args below meth c T locs cells slots) (hx : p.tables.exec = Jvm.exec) (hZ : Z.Warmed39 s.vm) (eT : T.heap = h) {a : Addr} {k : ClassId} {z : Int32} {vs : List Value} {d : Value} (F : Arv Z h a k .char z vs d) {j x : Int32} {i : Nat} (hj : ¬ j < 0 ∧ j < z) (hi : j.toNatClampNeg = i) (hl : i < vs.length) {g : JFrame} (hg : g.method = m) {rest : List Value} (hs : g.stack = .int x :: .int j :: .ref a :: rest) (hd : decode c.code g.pc = .ok (.castore, 1)) :
    ∃ T' h', Stand p l e R s m args below meth c T' (locs ++ [⟨a, j.toNatClampNeg⟩]) cells slots ∧ T'.heap = h' ∧ Wr h h' a j.toNatClampNeg (.int (nar .char x)) ∧ Arv Z h' a k .char z (vs.set i (.int (nar .char x))) d ∧ ∀ target, Steps p.tables e below (T'.setTop { g with pc := g.pc + 1, stack := rest }) target → Steps p.tables e below (T.setTop g) target := by
  obtain ⟨cl, A, q1, S, q3, H, G⟩ := F
  obtain ⟨T', h', X', e', W, st⟩ := stC X hx hZ eT A (inb_of S hj) hg hs hd
  exact ⟨T', h', X', e', W, Arv.set A q1 S q3 H G (fits_nar_char _) W i hi hl, st⟩
theorem stBV (X : Stand p l e R s m args below meth c T locs cells slots) (hx : p.tables.exec = Jvm.exec) (hZ : Z.Warmed39 s.vm) (eT : T.heap = h) {a : Addr} {k : ClassId} {z : Int32} {vs : List Value} {d : Value} (F : Arv Z h a k .byte z vs d) {j x : Int32} {i : Nat} (hj : ¬ j < 0 ∧ j < z) (hi : j.toNatClampNeg = i) (hl : i < vs.length) {g : JFrame} (hg : g.method = m) {rest : List Value} (hs : g.stack = .int x :: .int j :: .ref a :: rest) (hd : decode c.code g.pc = .ok (.bastore, 1)) :
    ∃ T' h', Stand p l e R s m args below meth c T' (locs ++ [⟨a, j.toNatClampNeg⟩]) cells slots ∧ T'.heap = h' ∧ Wr h h' a j.toNatClampNeg (.int (nar .byte x)) ∧ Arv Z h' a k .byte z (vs.set i (.int (nar .byte x))) d ∧ ∀ target, Steps p.tables e below (T'.setTop { g with pc := g.pc + 1, stack := rest }) target → Steps p.tables e below (T.setTop g) target := by
  obtain ⟨cl, A, q1, S, q3, H, G⟩ := F
  obtain ⟨T', h', X', e', W, st⟩ := stB X hx hZ eT A (inb_of S hj) hg hs hd
  exact ⟨T', h', X', e', W, Arv.set A q1 S q3 H G (fits_nar_byte _) W i hi hl, st⟩
theorem eqv_r {Z : State} {args : Array Value} {X F : Term} {idx : List Nat} {y : Addr} (hF : F.eval args Z none idx Z = some (.ref y)) (h : (Cond.eq X F).value args Z none Z idx = some true) : X.eval args Z none idx Z = some (.ref y) := by
  cases hX : X.eval args Z none idx Z with
  | none => simp [Cond.value, hX] at h
  | some v => cases v <;> simp [Cond.value, hX, hF] at h ⊢; exact h
theorem Arv.startL {Z : State} {args : Array Value} {t : Term} {a : Addr} {ty : FieldType} {z : Int32} {vs : List Value} {dv : Value} (hf : Fit Z) (et : t.eval args Z none [] Z = some (.ref a)) (ha : (Cond.arrayOf t ty).value args Z none Z [] = some true) (hl : (Cond.eq (.length t) (.int z)).value args Z none Z [] = some true)
    (hz : ¬ z < 0) (hn : z.toNatClampNeg = vs.length) (H : ∀ c, Z.heap[a]? = some c → HasL c 0 vs) : ∃ k, Arv Z Z.heap a k ty z vs dv := by
  obtain ⟨c, A⟩ := Arr.start et ha
  obtain ⟨b, cell, e1, e2, e3, e4⟩ := Jvm.Lib.length_spec (eqv_i rfl hl)
  cases et.symm.trans e1
  cases (A.fin (Vm.Alike.refl _)).symm.trans e2
  exact ⟨c.cls, Arv.start hf A e3 (Value.int.inj e4).symm hz hn (H c A.1)⟩
theorem Keep.toExt (K : Keep h h' []) : Ext h h' := ⟨K.1, fun a c q => K.2.1 a c q (fun z => nomatch z)⟩
theorem Ext.toKeep (E : Ext h h') : Keep h h' [] := ⟨E.1, fun a c q _ => E.2 a c q, fun a c q => ⟨c, E.2 a c q, rfl, rfl, rfl⟩⟩
theorem Ext.refl (h : Heap) : Ext h h := ⟨Nat.le_refl _, fun _ _ q => q⟩
theorem Ext.tr {h2 : Heap} (A : Ext h h') (B : Ext h' h2) : Ext h h2 := ⟨Nat.le_trans A.1 B.1, fun a c q => B.2 a c (A.2 a c q)⟩
theorem Ext.thenK {h2 : Heap} {ws : List Addr} (A : Ext h h') (K : Keep h' h2 ws) (q : ∀ x ∈ ws, h.size ≤ x) : Ext h h2 := (A.toKeep.trans K fun x hx => Or.inr (q x hx)).toExt
theorem Ext.thenW {h2 : Heap} {a : Addr} {sl : Nat} {v : Value} (A : Ext h h') (W : Wr h' h2 a sl v) (q : h.size ≤ a) : Ext h h2 := (A.toKeep.wr W (Or.inr q)).toExt
theorem i2c_id {x : Int32} (h : 0 ≤ x.toInt ∧ x.toInt < 65536) : x.toUInt32.toUInt16.toUInt32.toInt32 = x := by
  have q := c_i2c x
  exact Int32.toInt_inj.mp (by omega)
theorem i2b_id {x : Int32} (h : -128 ≤ x.toInt ∧ x.toInt < 128) : x.toInt8.toInt32 = x := by
  have q := c_i2b x
  exact Int32.toInt_inj.mp (by omega)
theorem nar_b {x : Int32} : nar .byte (x.toInt8.toInt32) = x.toInt8.toInt32 := i2b_id (c_i2b x).2
theorem nar_c {x : Int32} : nar .char (x.toUInt32.toUInt16.toUInt32.toInt32) = x.toUInt32.toUInt16.toUInt32.toInt32 := i2c_id (c_i2c x).2
theorem nar_cid {x : Int32} (h : 0 ≤ x.toInt ∧ x.toInt < 65536) : nar .char x = x := i2c_id h
theorem and255 (x : Int32) : 0 ≤ ((x &&& 255).toUInt32.toUInt16.toUInt32.toInt32).toInt ∧ ((x &&& 255).toUInt32.toUInt16.toUInt32.toInt32).toInt ≤ 255 := by
  have h := c_mask x 255 8 (by decide) (by decide)
  have q := c_i2c (x &&& 255)
  omega
theorem le255 {x : Int32} (h : 0 ≤ x.toInt ∧ x.toInt ≤ 255) : ¬ (255 : Int32) < x := by rw [Int32.lt_iff_toInt_lt]; have : (255 : Int32).toInt = 255 := rfl; omega
theorem ne_lt {x b i j : Nat} (h1 : x < i) (h2 : i ≤ j) (h3 : j ≤ b) : x ≠ b := by omega
theorem own_add0 (n : Nat) : n + 0 = n := rfl
end OwnGo
end Jvm.RoadKit
namespace Jvm.Pilot.@@N@@
open Jvm Jvm.ClassFile Sem Op Lib Jvm.Free Jvm.Stand Jvm.LawKit Jvm.RoadKit Bundle Jvm.Pilot.@@N@@.Jvm.D
theorem d2_0 : decode prog_21_method_7_code 0 = .ok (.aload_n 0, 1) := by decide +kernel
theorem d2_1 : decode prog_21_method_7_code 1 = .ok (.getfield 68, 3) := by decide +kernel
theorem w13 {a0 : Array Value} {Z : State} (hw : ∀ d ∈ tables_1, d.before a0 Z = true) : ((Jvm.Cond.fieldLink "com/example/patience/patience/congruence/Format" (68 : Nat) "com/example/patience/patience/congruence/Format" "tameFormat" "Lcom/example/patience/patience/congruence/Format;")).before a0 Z = true := hw _ (List.mem_of_getElem? (i := 13) rfl)
theorem d2_4 : decode prog_21_method_7_code 4 = .ok (.ifnull 7, 3) := by decide +kernel
theorem d2_11 : decode prog_21_method_7_code 11 = .ok (.iconst 0, 1) := by decide +kernel
theorem d2_12 : decode prog_21_method_7_code 12 = .ok (.ireturn, 1) := by decide +kernel
def rr_rootedN : Room := { frames := 0, cells := 0, slots := 0, locals := 0 }
theorem pn0 : plainName "com/example/patience/patience/congruence/Format" = true := by first | (simp [plainName, overriddenIn]; done) | decide +kernel
set_option maxRecDepth 65536 in
set_option maxHeartbeats 40000000 in
theorem rm_rootedN (l : Launch) (Z : State) (a0 : Array Value) (hw : ∀ d ∈ tables_1, d.before a0 Z = true) (ws : List Jvm.Cond) (a1 : Addr)  (h0 : Heap) (n0 : Nat) (Z0 : n0 ≤ h0.size) (F0 : Fld Z h0 a1 "com/example/patience/patience/congruence/Format" "tameFormat" "Lcom/example/patience/patience/congruence/Format;" .null) :
    Con l Z (⟨"com/example/patience/patience/congruence/Format", "isRooted", "()Z"⟩ : MethodName) prog_21_method_7_code 1 (some .boolean) ws rr_rootedN #[(.ref a1)] h0 (fun v h L => v = some (.int 0) ∧ Fr n0 L ∧ h = h0) := by
  refine Con.enter (plainFor_of_name pn0) ?_
  intro p e s m below meth c s₁ X0 hx hZ hby hml hret hlk hown hnm e0
  have N0 := Fr.nil n0
  refine Go.cast (g' := (mkF m 0 #[.val (.ref a1)] [])) (by first | rfl | (simp [entryFrame, mkF, argsToLocals, Value.category]; done)) ?_
  refine Go.st (T' := s₁) (g' := (mkF m 1 #[.val (.ref a1)] [(.ref a1)])) (fun _ k => XS.aloadN X0.here hx rfl (hb hby d2_0) rfl rfl k) ?_
  obtain ⟨T1, X1, e1, st1⟩ := getF X0 hx hZ hown (host := "") (Or.inl (w13 hw)) Via.refl e0 F0 (g := (mkF m 1 #[.val (.ref a1)] [(.ref a1)])) rfl rfl (hb hby d2_1)
  refine Go.st (T' := T1) (g' := (mkF m 4 #[.val (.ref a1)] [.null])) (fun _ k => st1 _ k) ?_
  refine Go.st (T' := T1) (g' := (mkF m 11 #[.val (.ref a1)] [])) (fun _ k => XS.ifnullYes X1.here hx rfl (pc0 := 4) (pc' := 11) rfl (hb hby d2_4) rfl (by decide) (by decide) k) ?_
  refine Go.st (T' := T1) (g' := (mkF m 12 #[.val (.ref a1)] [(.int (0 : Int32))])) (fun _ k => XS.iconst X1.here hx rfl (hb hby d2_11) k) ?_
  refine Go.retN X1 hx hlk hret rfl (by simp) (hb hby d2_12) (by decide) (by decide) e1 ?_
  exact ⟨rfl, N0, rfl⟩
theorem d2_7 : decode prog_21_method_7_code 7 = .ok (.iconst 1, 1) := by decide +kernel
theorem d2_8 : decode prog_21_method_7_code 8 = .ok (.goto 4, 3) := by decide +kernel
def rr_rootedR : Room := { frames := 0, cells := 0, slots := 0, locals := 0 }
set_option maxRecDepth 65536 in
set_option maxHeartbeats 40000000 in
theorem rm_rootedR (l : Launch) (Z : State) (a0 : Array Value) (hw : ∀ d ∈ tables_1, d.before a0 Z = true) (ws : List Jvm.Cond) (a1 : Addr) (w : Addr) (h0 : Heap) (n0 : Nat) (Z0 : n0 ≤ h0.size) (F0 : Fld Z h0 a1 "com/example/patience/patience/congruence/Format" "tameFormat" "Lcom/example/patience/patience/congruence/Format;" (.ref w)) :
    Con l Z (⟨"com/example/patience/patience/congruence/Format", "isRooted", "()Z"⟩ : MethodName) prog_21_method_7_code 1 (some .boolean) ws rr_rootedR #[(.ref a1)] h0 (fun v h L => v = some (.int 1) ∧ Fr n0 L ∧ h = h0) := by
  refine Con.enter (plainFor_of_name pn0) ?_
  intro p e s m below meth c s₁ X0 hx hZ hby hml hret hlk hown hnm e0
  have N0 := Fr.nil n0
  refine Go.cast (g' := (mkF m 0 #[.val (.ref a1)] [])) (by first | rfl | (simp [entryFrame, mkF, argsToLocals, Value.category]; done)) ?_
  refine Go.st (T' := s₁) (g' := (mkF m 1 #[.val (.ref a1)] [(.ref a1)])) (fun _ k => XS.aloadN X0.here hx rfl (hb hby d2_0) rfl rfl k) ?_
  obtain ⟨T1, X1, e1, st1⟩ := getF X0 hx hZ hown (host := "") (Or.inl (w13 hw)) Via.refl e0 F0 (g := (mkF m 1 #[.val (.ref a1)] [(.ref a1)])) rfl rfl (hb hby d2_1)
  refine Go.st (T' := T1) (g' := (mkF m 4 #[.val (.ref a1)] [(.ref w)])) (fun _ k => st1 _ k) ?_
  refine Go.st (T' := T1) (g' := (mkF m 7 #[.val (.ref a1)] [])) (fun _ k => XS.ifnullNo X1.here hx rfl (hb hby d2_4) rfl k) ?_
  refine Go.st (T' := T1) (g' := (mkF m 8 #[.val (.ref a1)] [(.int (1 : Int32))])) (fun _ k => XS.iconst X1.here hx rfl (hb hby d2_7) k) ?_
  refine Go.st (T' := T1) (g' := (mkF m 12 #[.val (.ref a1)] [(.int (1 : Int32))])) (fun _ k => XS.goto X1.here hx rfl (pc0 := 8) (pc' := 12) rfl (hb hby d2_8) (by decide) (by decide) k) ?_
  refine Go.retN X1 hx hlk hret rfl (by simp) (hb hby d2_12) (by decide) (by decide) e1 ?_
  exact ⟨rfl, N0, rfl⟩
theorem d3_0 : decode prog_21_method_5_code 0 = .ok (.aload_n 0, 1) := by decide +kernel
theorem d3_1 : decode prog_21_method_5_code 1 = .ok (.getfield 54, 3) := by decide +kernel
theorem w20 {a0 : Array Value} {Z : State} (hw : ∀ d ∈ tables_1, d.before a0 Z = true) : ((Jvm.Cond.fieldLink "com/example/patience/patience/congruence/Format" (54 : Nat) "com/example/patience/patience/congruence/Format" "equivalence" "Lcom/example/patience/patience/equivalence/Equivalence;")).before a0 Z = true := hw _ (List.mem_of_getElem? (i := 20) rfl)
theorem d3_4 : decode prog_21_method_5_code 4 = .ok (.areturn, 1) := by decide +kernel
def rr_equivalence : Room := { frames := 0, cells := 0, slots := 0, locals := 0 }
set_option maxRecDepth 65536 in
set_option maxHeartbeats 40000000 in
theorem rm_equivalence (l : Launch) (Z : State) (a0 : Array Value) (hw : ∀ d ∈ tables_1, d.before a0 Z = true) (ws : List Jvm.Cond) (a1 : Addr) (w : Addr) (h0 : Heap) (n0 : Nat) (Z0 : n0 ≤ h0.size) (F0 : Fld Z h0 a1 "com/example/patience/patience/congruence/Format" "equivalence" "Lcom/example/patience/patience/equivalence/Equivalence;" (.ref w)) :
    Con l Z (⟨"com/example/patience/patience/congruence/Format", "equivalence", "()Lcom/example/patience/patience/equivalence/Equivalence;"⟩ : MethodName) prog_21_method_5_code 1 (some (.object "com/example/patience/patience/equivalence/Equivalence")) ws rr_equivalence #[(.ref a1)] h0 (fun v h L => v = some (.ref w) ∧ Fr n0 L ∧ h = h0) := by
  refine Con.enter (plainFor_of_name pn0) ?_
  intro p e s m below meth c s₁ X0 hx hZ hby hml hret hlk hown hnm e0
  have N0 := Fr.nil n0
  refine Go.cast (g' := (mkF m 0 #[.val (.ref a1)] [])) (by first | rfl | (simp [entryFrame, mkF, argsToLocals, Value.category]; done)) ?_
  refine Go.st (T' := s₁) (g' := (mkF m 1 #[.val (.ref a1)] [(.ref a1)])) (fun _ k => XS.aloadN X0.here hx rfl (hb hby d3_0) rfl rfl k) ?_
  obtain ⟨T1, X1, e1, st1⟩ := getF X0 hx hZ hown (host := "") (Or.inl (w20 hw)) Via.refl e0 F0 (g := (mkF m 1 #[.val (.ref a1)] [(.ref a1)])) rfl rfl (hb hby d3_1)
  refine Go.st (T' := T1) (g' := (mkF m 4 #[.val (.ref a1)] [(.ref w)])) (fun _ k => st1 _ k) ?_
  refine Go.retA X1 hx hlk hret rfl rfl (hb hby d3_4) (by decide) (by decide) e1 ?_
  exact ⟨rfl, N0, rfl⟩
def Sts (Z : State) (A : Nat → Addr) : Prop := Sta Z Z.heap "com/example/patience/patience/congruence/Format" "GSOS" "Lcom/example/patience/patience/congruence/Format;" (.ref (A 0)) ∧ Sta Z Z.heap "com/example/patience/patience/congruence/Format" "SIMPLY_WB_COOL" "Lcom/example/patience/patience/congruence/Format;" (.ref (A 1)) ∧ Sta Z Z.heap "com/example/patience/patience/congruence/Format" "SIMPLY_DB_COOL" "Lcom/example/patience/patience/congruence/Format;" (.ref (A 2)) ∧ Sta Z Z.heap "com/example/patience/patience/congruence/Format" "SIMPLY_HB_COOL" "Lcom/example/patience/patience/congruence/Format;" (.ref (A 3)) ∧ Sta Z Z.heap "com/example/patience/patience/congruence/Format" "SIMPLY_BB_COOL" "Lcom/example/patience/patience/congruence/Format;" (.ref (A 4)) ∧ Sta Z Z.heap "com/example/patience/patience/congruence/Format" "SIMPLY_RWB_COOL" "Lcom/example/patience/patience/congruence/Format;" (.ref (A 5)) ∧ Sta Z Z.heap "com/example/patience/patience/congruence/Format" "SIMPLY_RDB_COOL" "Lcom/example/patience/patience/congruence/Format;" (.ref (A 6)) ∧ Sta Z Z.heap "com/example/patience/patience/congruence/Format" "SIMPLY_RHB_COOL" "Lcom/example/patience/patience/congruence/Format;" (.ref (A 7)) ∧ Sta Z Z.heap "com/example/patience/patience/congruence/Format" "SIMPLY_RBB_COOL" "Lcom/example/patience/patience/congruence/Format;" (.ref (A 8))
def Ets (Z : State) (B : Nat → Addr) : Prop := Sta Z Z.heap "com/example/patience/patience/equivalence/Equivalence" "ROOTED_WEAK" "Lcom/example/patience/patience/equivalence/Equivalence;" (.ref (B 5)) ∧ Sta Z Z.heap "com/example/patience/patience/equivalence/Equivalence" "ROOTED_DELAY" "Lcom/example/patience/patience/equivalence/Equivalence;" (.ref (B 6)) ∧ Sta Z Z.heap "com/example/patience/patience/equivalence/Equivalence" "ROOTED_ETA" "Lcom/example/patience/patience/equivalence/Equivalence;" (.ref (B 7)) ∧ Sta Z Z.heap "com/example/patience/patience/equivalence/Equivalence" "ROOTED_BRANCHING" "Lcom/example/patience/patience/equivalence/Equivalence;" (.ref (B 8))
def Exs (Z : State) (A : Nat → Addr) : Prop := Exa Z Z.heap (A 0) "com/example/patience/patience/congruence/Format" ∧ Exa Z Z.heap (A 1) "com/example/patience/patience/congruence/Format" ∧ Exa Z Z.heap (A 2) "com/example/patience/patience/congruence/Format" ∧ Exa Z Z.heap (A 3) "com/example/patience/patience/congruence/Format" ∧ Exa Z Z.heap (A 4) "com/example/patience/patience/congruence/Format" ∧ Exa Z Z.heap (A 5) "com/example/patience/patience/congruence/Format" ∧ Exa Z Z.heap (A 6) "com/example/patience/patience/congruence/Format" ∧ Exa Z Z.heap (A 7) "com/example/patience/patience/congruence/Format" ∧ Exa Z Z.heap (A 8) "com/example/patience/patience/congruence/Format"
def Tms (Z : State) (A : Nat → Addr) : Prop := Fld Z Z.heap (A 0) "com/example/patience/patience/congruence/Format" "tameFormat" "Lcom/example/patience/patience/congruence/Format;" .null ∧ Fld Z Z.heap (A 1) "com/example/patience/patience/congruence/Format" "tameFormat" "Lcom/example/patience/patience/congruence/Format;" .null ∧ Fld Z Z.heap (A 2) "com/example/patience/patience/congruence/Format" "tameFormat" "Lcom/example/patience/patience/congruence/Format;" .null ∧ Fld Z Z.heap (A 3) "com/example/patience/patience/congruence/Format" "tameFormat" "Lcom/example/patience/patience/congruence/Format;" .null ∧ Fld Z Z.heap (A 4) "com/example/patience/patience/congruence/Format" "tameFormat" "Lcom/example/patience/patience/congruence/Format;" .null ∧ Fld Z Z.heap (A 5) "com/example/patience/patience/congruence/Format" "tameFormat" "Lcom/example/patience/patience/congruence/Format;" (.ref (A 1)) ∧ Fld Z Z.heap (A 6) "com/example/patience/patience/congruence/Format" "tameFormat" "Lcom/example/patience/patience/congruence/Format;" (.ref (A 2)) ∧ Fld Z Z.heap (A 7) "com/example/patience/patience/congruence/Format" "tameFormat" "Lcom/example/patience/patience/congruence/Format;" (.ref (A 3)) ∧ Fld Z Z.heap (A 8) "com/example/patience/patience/congruence/Format" "tameFormat" "Lcom/example/patience/patience/congruence/Format;" (.ref (A 4))
def Eqs (Z : State) (A B : Nat → Addr) : Prop := Fld Z Z.heap (A 0) "com/example/patience/patience/congruence/Format" "equivalence" "Lcom/example/patience/patience/equivalence/Equivalence;" (.ref (B 0)) ∧ Fld Z Z.heap (A 1) "com/example/patience/patience/congruence/Format" "equivalence" "Lcom/example/patience/patience/equivalence/Equivalence;" (.ref (B 1)) ∧ Fld Z Z.heap (A 2) "com/example/patience/patience/congruence/Format" "equivalence" "Lcom/example/patience/patience/equivalence/Equivalence;" (.ref (B 2)) ∧ Fld Z Z.heap (A 3) "com/example/patience/patience/congruence/Format" "equivalence" "Lcom/example/patience/patience/equivalence/Equivalence;" (.ref (B 3)) ∧ Fld Z Z.heap (A 4) "com/example/patience/patience/congruence/Format" "equivalence" "Lcom/example/patience/patience/equivalence/Equivalence;" (.ref (B 4)) ∧ Fld Z Z.heap (A 5) "com/example/patience/patience/congruence/Format" "equivalence" "Lcom/example/patience/patience/equivalence/Equivalence;" (.ref (B 5)) ∧ Fld Z Z.heap (A 6) "com/example/patience/patience/congruence/Format" "equivalence" "Lcom/example/patience/patience/equivalence/Equivalence;" (.ref (B 6)) ∧ Fld Z Z.heap (A 7) "com/example/patience/patience/congruence/Format" "equivalence" "Lcom/example/patience/patience/equivalence/Equivalence;" (.ref (B 7)) ∧ Fld Z Z.heap (A 8) "com/example/patience/patience/congruence/Format" "equivalence" "Lcom/example/patience/patience/equivalence/Equivalence;" (.ref (B 8))
def Ors (Z : State) (B : Nat → Addr) : Prop := Fld Z Z.heap (B 0) "java/lang/Enum" "ordinal" "I" (.int (0 : Int32)) ∧ Fld Z Z.heap (B 1) "java/lang/Enum" "ordinal" "I" (.int (1 : Int32)) ∧ Fld Z Z.heap (B 2) "java/lang/Enum" "ordinal" "I" (.int (2 : Int32)) ∧ Fld Z Z.heap (B 3) "java/lang/Enum" "ordinal" "I" (.int (3 : Int32)) ∧ Fld Z Z.heap (B 4) "java/lang/Enum" "ordinal" "I" (.int (4 : Int32)) ∧ Fld Z Z.heap (B 5) "java/lang/Enum" "ordinal" "I" (.int (5 : Int32)) ∧ Fld Z Z.heap (B 6) "java/lang/Enum" "ordinal" "I" (.int (6 : Int32)) ∧ Fld Z Z.heap (B 7) "java/lang/Enum" "ordinal" "I" (.int (7 : Int32)) ∧ Fld Z Z.heap (B 8) "java/lang/Enum" "ordinal" "I" (.int (8 : Int32))
theorem d1_0 : decode method_2_code 0 = .ok (.iload_n 0, 1) := by decide +kernel
theorem d1_1 : decode method_2_code 1 = .ok (.ifCond .ne 7, 3) := by decide +kernel
theorem d1_4 : decode method_2_code 4 = .ok (.getstatic 7, 3) := by decide +kernel
theorem w5 {a0 : Array Value} {Z : State} (hw : ∀ d ∈ tables_1, d.before a0 Z = true) : ((Jvm.Cond.fieldLink "com/example/patience/patience/congruence/FormatIsRootedPinLaw" (7 : Nat) "com/example/patience/patience/congruence/Format" "GSOS" "Lcom/example/patience/patience/congruence/Format;")).before a0 Z = true := hw _ (List.mem_of_getElem? (i := 5) rfl)
theorem d1_7 : decode method_2_code 7 = .ok (.areturn, 1) := by decide +kernel
theorem d1_8 : decode method_2_code 8 = .ok (.iload_n 0, 1) := by decide +kernel
theorem d1_9 : decode method_2_code 9 = .ok (.iconst 1, 1) := by decide +kernel
theorem d1_10 : decode method_2_code 10 = .ok (.if_icmp .ne 7, 3) := by decide +kernel
theorem d1_13 : decode method_2_code 13 = .ok (.getstatic 13, 3) := by decide +kernel
theorem w38 {a0 : Array Value} {Z : State} (hw : ∀ d ∈ tables_1, d.before a0 Z = true) : ((Jvm.Cond.fieldLink "com/example/patience/patience/congruence/FormatIsRootedPinLaw" (13 : Nat) "com/example/patience/patience/congruence/Format" "SIMPLY_WB_COOL" "Lcom/example/patience/patience/congruence/Format;")).before a0 Z = true := hw _ (List.mem_of_getElem? (i := 38) rfl)
theorem d1_16 : decode method_2_code 16 = .ok (.areturn, 1) := by decide +kernel
theorem d1_17 : decode method_2_code 17 = .ok (.iload_n 0, 1) := by decide +kernel
theorem d1_18 : decode method_2_code 18 = .ok (.iconst 2, 1) := by decide +kernel
theorem d1_19 : decode method_2_code 19 = .ok (.if_icmp .ne 7, 3) := by decide +kernel
theorem d1_22 : decode method_2_code 22 = .ok (.getstatic 16, 3) := by decide +kernel
theorem w35 {a0 : Array Value} {Z : State} (hw : ∀ d ∈ tables_1, d.before a0 Z = true) : ((Jvm.Cond.fieldLink "com/example/patience/patience/congruence/FormatIsRootedPinLaw" (16 : Nat) "com/example/patience/patience/congruence/Format" "SIMPLY_DB_COOL" "Lcom/example/patience/patience/congruence/Format;")).before a0 Z = true := hw _ (List.mem_of_getElem? (i := 35) rfl)
theorem d1_25 : decode method_2_code 25 = .ok (.areturn, 1) := by decide +kernel
theorem d1_26 : decode method_2_code 26 = .ok (.iload_n 0, 1) := by decide +kernel
theorem d1_27 : decode method_2_code 27 = .ok (.iconst 3, 1) := by decide +kernel
theorem d1_28 : decode method_2_code 28 = .ok (.if_icmp .ne 7, 3) := by decide +kernel
theorem d1_31 : decode method_2_code 31 = .ok (.getstatic 19, 3) := by decide +kernel
theorem w32 {a0 : Array Value} {Z : State} (hw : ∀ d ∈ tables_1, d.before a0 Z = true) : ((Jvm.Cond.fieldLink "com/example/patience/patience/congruence/FormatIsRootedPinLaw" (19 : Nat) "com/example/patience/patience/congruence/Format" "SIMPLY_HB_COOL" "Lcom/example/patience/patience/congruence/Format;")).before a0 Z = true := hw _ (List.mem_of_getElem? (i := 32) rfl)
theorem d1_34 : decode method_2_code 34 = .ok (.areturn, 1) := by decide +kernel
theorem d1_35 : decode method_2_code 35 = .ok (.iload_n 0, 1) := by decide +kernel
theorem d1_36 : decode method_2_code 36 = .ok (.iconst 4, 1) := by decide +kernel
theorem d1_37 : decode method_2_code 37 = .ok (.if_icmp .ne 7, 3) := by decide +kernel
theorem d1_40 : decode method_2_code 40 = .ok (.getstatic 22, 3) := by decide +kernel
theorem w43 {a0 : Array Value} {Z : State} (hw : ∀ d ∈ tables_1, d.before a0 Z = true) : ((Jvm.Cond.fieldLink "com/example/patience/patience/congruence/FormatIsRootedPinLaw" (22 : Nat) "com/example/patience/patience/congruence/Format" "SIMPLY_BB_COOL" "Lcom/example/patience/patience/congruence/Format;")).before a0 Z = true := hw _ (List.mem_of_getElem? (i := 43) rfl)
theorem d1_43 : decode method_2_code 43 = .ok (.areturn, 1) := by decide +kernel
theorem d1_44 : decode method_2_code 44 = .ok (.iload_n 0, 1) := by decide +kernel
theorem d1_45 : decode method_2_code 45 = .ok (.iconst 5, 1) := by decide +kernel
theorem d1_46 : decode method_2_code 46 = .ok (.if_icmp .ne 7, 3) := by decide +kernel
theorem d1_49 : decode method_2_code 49 = .ok (.getstatic 25, 3) := by decide +kernel
theorem w50 {a0 : Array Value} {Z : State} (hw : ∀ d ∈ tables_1, d.before a0 Z = true) : ((Jvm.Cond.fieldLink "com/example/patience/patience/congruence/FormatIsRootedPinLaw" (25 : Nat) "com/example/patience/patience/congruence/Format" "SIMPLY_RWB_COOL" "Lcom/example/patience/patience/congruence/Format;")).before a0 Z = true := hw _ (List.mem_of_getElem? (i := 50) rfl)
theorem d1_52 : decode method_2_code 52 = .ok (.areturn, 1) := by decide +kernel
theorem d1_53 : decode method_2_code 53 = .ok (.iload_n 0, 1) := by decide +kernel
theorem d1_54 : decode method_2_code 54 = .ok (.bipush 6, 2) := by decide +kernel
theorem d1_56 : decode method_2_code 56 = .ok (.if_icmp .ne 7, 3) := by decide +kernel
theorem d1_59 : decode method_2_code 59 = .ok (.getstatic 28, 3) := by decide +kernel
theorem w48 {a0 : Array Value} {Z : State} (hw : ∀ d ∈ tables_1, d.before a0 Z = true) : ((Jvm.Cond.fieldLink "com/example/patience/patience/congruence/FormatIsRootedPinLaw" (28 : Nat) "com/example/patience/patience/congruence/Format" "SIMPLY_RDB_COOL" "Lcom/example/patience/patience/congruence/Format;")).before a0 Z = true := hw _ (List.mem_of_getElem? (i := 48) rfl)
theorem d1_62 : decode method_2_code 62 = .ok (.areturn, 1) := by decide +kernel
theorem d1_63 : decode method_2_code 63 = .ok (.iload_n 0, 1) := by decide +kernel
theorem d1_64 : decode method_2_code 64 = .ok (.bipush 7, 2) := by decide +kernel
theorem d1_66 : decode method_2_code 66 = .ok (.if_icmp .ne 7, 3) := by decide +kernel
theorem d1_69 : decode method_2_code 69 = .ok (.getstatic 31, 3) := by decide +kernel
theorem w41 {a0 : Array Value} {Z : State} (hw : ∀ d ∈ tables_1, d.before a0 Z = true) : ((Jvm.Cond.fieldLink "com/example/patience/patience/congruence/FormatIsRootedPinLaw" (31 : Nat) "com/example/patience/patience/congruence/Format" "SIMPLY_RHB_COOL" "Lcom/example/patience/patience/congruence/Format;")).before a0 Z = true := hw _ (List.mem_of_getElem? (i := 41) rfl)
theorem d1_72 : decode method_2_code 72 = .ok (.areturn, 1) := by decide +kernel
theorem d1_73 : decode method_2_code 73 = .ok (.getstatic 34, 3) := by decide +kernel
theorem w46 {a0 : Array Value} {Z : State} (hw : ∀ d ∈ tables_1, d.before a0 Z = true) : ((Jvm.Cond.fieldLink "com/example/patience/patience/congruence/FormatIsRootedPinLaw" (34 : Nat) "com/example/patience/patience/congruence/Format" "SIMPLY_RBB_COOL" "Lcom/example/patience/patience/congruence/Format;")).before a0 Z = true := hw _ (List.mem_of_getElem? (i := 46) rfl)
theorem d1_76 : decode method_2_code 76 = .ok (.areturn, 1) := by decide +kernel
def rr_pick : Room := { frames := 0, cells := 0, slots := 0, locals := 0 }
theorem pn1 : plainName "com/example/patience/patience/congruence/FormatIsRootedPinLaw" = true := by first | (simp [plainName, overriddenIn]; done) | decide +kernel
set_option maxRecDepth 65536 in
set_option maxHeartbeats 40000000 in
theorem rm_pick (l : Launch) (Z : State) (a0 : Array Value) (hw : ∀ d ∈ tables_1, d.before a0 Z = true) (ws : List Jvm.Cond) (k : Int32) (a : Addr) (A : Nat → Addr) (h0 : Heap) (n0 : Nat) (Z0 : n0 ≤ h0.size) (O0 : Old Z n0 h0) (SS : Sts Z A) (hk : (k = 0 ∧ a = A 0) ∨ (k = 1 ∧ a = A 1) ∨ (k = 2 ∧ a = A 2) ∨ (k = 3 ∧ a = A 3) ∨ (k = 4 ∧ a = A 4) ∨ (k = 5 ∧ a = A 5) ∨ (k = 6 ∧ a = A 6) ∨ (k = 7 ∧ a = A 7) ∨ (k = 8 ∧ a = A 8)) :
    Con l Z (⟨"com/example/patience/patience/congruence/FormatIsRootedPinLaw", "pick", "(I)Lcom/example/patience/patience/congruence/Format;"⟩ : MethodName) method_2_code 1 (some (.object "com/example/patience/patience/congruence/Format")) ws rr_pick #[(.int k)] h0 (fun v h L => v = some (.ref a) ∧ Fr n0 L ∧ h = h0) := by
  refine Con.enter (plainFor_of_name pn1) ?_
  intro p e s m below meth c s₁ X0 hx hZ hby hml hret hlk hown hnm e0
  have N0 := Fr.nil n0
  refine Go.cast (g' := (mkF m 0 #[.val (.int k)] [])) (by first | rfl | (simp [entryFrame, mkF, argsToLocals, Value.category]; done)) ?_
  rcases hk with ⟨rfl, rfl⟩ | ⟨rfl, rfl⟩ | ⟨rfl, rfl⟩ | ⟨rfl, rfl⟩ | ⟨rfl, rfl⟩ | ⟨rfl, rfl⟩ | ⟨rfl, rfl⟩ | ⟨rfl, rfl⟩ | ⟨rfl, rfl⟩
  · refine Go.st (T' := s₁) (g' := (mkF m 1 #[.val (.int (0 : Int32))] [(.int (0 : Int32))])) (fun _ k => XS.iloadN X0.here hx rfl (hb hby d1_0) rfl k) ?_
    refine Go.st (T' := s₁) (g' := (mkF m 4 #[.val (.int (0 : Int32))] [])) (fun _ k => XS.ifNo X0.here hx rfl (hb hby d1_1) rfl ((if0 _ _).trans (teq ((by decide) : (0 : Int32) = (0 : Int32))).2) k) ?_
    obtain ⟨T1, X1, e1, st1⟩ := getS2 X0 hx hZ hown (host := "") (Or.inl (w5 hw)) Via.refl e0 (SS.1.ext O0.2) (g := (mkF m 4 #[.val (.int (0 : Int32))] [])) rfl (hb hby d1_4)
    refine Go.st (T' := T1) (g' := (mkF m 7 #[.val (.int (0 : Int32))] [(.ref (A 0))])) (fun _ k => st1 _ k) ?_
    refine Go.retA X1 hx hlk hret rfl rfl (hb hby d1_7) (by decide) (by decide) e1 ?_
    exact ⟨rfl, N0, rfl⟩
  · refine Go.st (T' := s₁) (g' := (mkF m 1 #[.val (.int (1 : Int32))] [(.int (1 : Int32))])) (fun _ k => XS.iloadN X0.here hx rfl (hb hby d1_0) rfl k) ?_
    refine Go.st (T' := s₁) (g' := (mkF m 8 #[.val (.int (1 : Int32))] [])) (fun _ k => XS.ifYes X0.here hx rfl (pc0 := 1) (pc' := 8) rfl (hb hby d1_1) rfl ((if0 _ _).trans (feq ((by decide) : ¬ ((1 : Int32) = (0 : Int32)))).2) (by decide) (by decide) k) ?_
    refine Go.st (T' := s₁) (g' := (mkF m 9 #[.val (.int (1 : Int32))] [(.int (1 : Int32))])) (fun _ k => XS.iloadN X0.here hx rfl (hb hby d1_8) rfl k) ?_
    refine Go.st (T' := s₁) (g' := (mkF m 10 #[.val (.int (1 : Int32))] [(.int (1 : Int32)), (.int (1 : Int32))])) (fun _ k => XS.iconst X0.here hx rfl (hb hby d1_9) k) ?_
    refine Go.st (T' := s₁) (g' := (mkF m 13 #[.val (.int (1 : Int32))] [])) (fun _ k => XS.icmpNo X0.here hx rfl (hb hby d1_10) rfl (teq ((by decide) : (1 : Int32) = (1 : Int32))).2 k) ?_
    obtain ⟨T2, X2, e2, st2⟩ := getS2 X0 hx hZ hown (host := "") (Or.inl (w38 hw)) Via.refl e0 (SS.2.1.ext O0.2) (g := (mkF m 13 #[.val (.int (1 : Int32))] [])) rfl (hb hby d1_13)
    refine Go.st (T' := T2) (g' := (mkF m 16 #[.val (.int (1 : Int32))] [(.ref (A 1))])) (fun _ k => st2 _ k) ?_
    refine Go.retA X2 hx hlk hret rfl rfl (hb hby d1_16) (by decide) (by decide) e2 ?_
    exact ⟨rfl, N0, rfl⟩
  · refine Go.st (T' := s₁) (g' := (mkF m 1 #[.val (.int (2 : Int32))] [(.int (2 : Int32))])) (fun _ k => XS.iloadN X0.here hx rfl (hb hby d1_0) rfl k) ?_
    refine Go.st (T' := s₁) (g' := (mkF m 8 #[.val (.int (2 : Int32))] [])) (fun _ k => XS.ifYes X0.here hx rfl (pc0 := 1) (pc' := 8) rfl (hb hby d1_1) rfl ((if0 _ _).trans (feq ((by decide) : ¬ ((2 : Int32) = (0 : Int32)))).2) (by decide) (by decide) k) ?_
    refine Go.st (T' := s₁) (g' := (mkF m 9 #[.val (.int (2 : Int32))] [(.int (2 : Int32))])) (fun _ k => XS.iloadN X0.here hx rfl (hb hby d1_8) rfl k) ?_
    refine Go.st (T' := s₁) (g' := (mkF m 10 #[.val (.int (2 : Int32))] [(.int (1 : Int32)), (.int (2 : Int32))])) (fun _ k => XS.iconst X0.here hx rfl (hb hby d1_9) k) ?_
    refine Go.st (T' := s₁) (g' := (mkF m 17 #[.val (.int (2 : Int32))] [])) (fun _ k => XS.icmpYes X0.here hx rfl (pc0 := 10) (pc' := 17) rfl (hb hby d1_10) rfl (feq ((by decide) : ¬ ((2 : Int32) = (1 : Int32)))).2 (by decide) (by decide) k) ?_
    refine Go.st (T' := s₁) (g' := (mkF m 18 #[.val (.int (2 : Int32))] [(.int (2 : Int32))])) (fun _ k => XS.iloadN X0.here hx rfl (hb hby d1_17) rfl k) ?_
    refine Go.st (T' := s₁) (g' := (mkF m 19 #[.val (.int (2 : Int32))] [(.int (2 : Int32)), (.int (2 : Int32))])) (fun _ k => XS.iconst X0.here hx rfl (hb hby d1_18) k) ?_
    refine Go.st (T' := s₁) (g' := (mkF m 22 #[.val (.int (2 : Int32))] [])) (fun _ k => XS.icmpNo X0.here hx rfl (hb hby d1_19) rfl (teq ((by decide) : (2 : Int32) = (2 : Int32))).2 k) ?_
    obtain ⟨T3, X3, e3, st3⟩ := getS2 X0 hx hZ hown (host := "") (Or.inl (w35 hw)) Via.refl e0 (SS.2.2.1.ext O0.2) (g := (mkF m 22 #[.val (.int (2 : Int32))] [])) rfl (hb hby d1_22)
    refine Go.st (T' := T3) (g' := (mkF m 25 #[.val (.int (2 : Int32))] [(.ref (A 2))])) (fun _ k => st3 _ k) ?_
    refine Go.retA X3 hx hlk hret rfl rfl (hb hby d1_25) (by decide) (by decide) e3 ?_
    exact ⟨rfl, N0, rfl⟩
  · refine Go.st (T' := s₁) (g' := (mkF m 1 #[.val (.int (3 : Int32))] [(.int (3 : Int32))])) (fun _ k => XS.iloadN X0.here hx rfl (hb hby d1_0) rfl k) ?_
    refine Go.st (T' := s₁) (g' := (mkF m 8 #[.val (.int (3 : Int32))] [])) (fun _ k => XS.ifYes X0.here hx rfl (pc0 := 1) (pc' := 8) rfl (hb hby d1_1) rfl ((if0 _ _).trans (feq ((by decide) : ¬ ((3 : Int32) = (0 : Int32)))).2) (by decide) (by decide) k) ?_
    refine Go.st (T' := s₁) (g' := (mkF m 9 #[.val (.int (3 : Int32))] [(.int (3 : Int32))])) (fun _ k => XS.iloadN X0.here hx rfl (hb hby d1_8) rfl k) ?_
    refine Go.st (T' := s₁) (g' := (mkF m 10 #[.val (.int (3 : Int32))] [(.int (1 : Int32)), (.int (3 : Int32))])) (fun _ k => XS.iconst X0.here hx rfl (hb hby d1_9) k) ?_
    refine Go.st (T' := s₁) (g' := (mkF m 17 #[.val (.int (3 : Int32))] [])) (fun _ k => XS.icmpYes X0.here hx rfl (pc0 := 10) (pc' := 17) rfl (hb hby d1_10) rfl (feq ((by decide) : ¬ ((3 : Int32) = (1 : Int32)))).2 (by decide) (by decide) k) ?_
    refine Go.st (T' := s₁) (g' := (mkF m 18 #[.val (.int (3 : Int32))] [(.int (3 : Int32))])) (fun _ k => XS.iloadN X0.here hx rfl (hb hby d1_17) rfl k) ?_
    refine Go.st (T' := s₁) (g' := (mkF m 19 #[.val (.int (3 : Int32))] [(.int (2 : Int32)), (.int (3 : Int32))])) (fun _ k => XS.iconst X0.here hx rfl (hb hby d1_18) k) ?_
    refine Go.st (T' := s₁) (g' := (mkF m 26 #[.val (.int (3 : Int32))] [])) (fun _ k => XS.icmpYes X0.here hx rfl (pc0 := 19) (pc' := 26) rfl (hb hby d1_19) rfl (feq ((by decide) : ¬ ((3 : Int32) = (2 : Int32)))).2 (by decide) (by decide) k) ?_
    refine Go.st (T' := s₁) (g' := (mkF m 27 #[.val (.int (3 : Int32))] [(.int (3 : Int32))])) (fun _ k => XS.iloadN X0.here hx rfl (hb hby d1_26) rfl k) ?_
    refine Go.st (T' := s₁) (g' := (mkF m 28 #[.val (.int (3 : Int32))] [(.int (3 : Int32)), (.int (3 : Int32))])) (fun _ k => XS.iconst X0.here hx rfl (hb hby d1_27) k) ?_
    refine Go.st (T' := s₁) (g' := (mkF m 31 #[.val (.int (3 : Int32))] [])) (fun _ k => XS.icmpNo X0.here hx rfl (hb hby d1_28) rfl (teq ((by decide) : (3 : Int32) = (3 : Int32))).2 k) ?_
    obtain ⟨T4, X4, e4, st4⟩ := getS2 X0 hx hZ hown (host := "") (Or.inl (w32 hw)) Via.refl e0 (SS.2.2.2.1.ext O0.2) (g := (mkF m 31 #[.val (.int (3 : Int32))] [])) rfl (hb hby d1_31)
    refine Go.st (T' := T4) (g' := (mkF m 34 #[.val (.int (3 : Int32))] [(.ref (A 3))])) (fun _ k => st4 _ k) ?_
    refine Go.retA X4 hx hlk hret rfl rfl (hb hby d1_34) (by decide) (by decide) e4 ?_
    exact ⟨rfl, N0, rfl⟩
  · refine Go.st (T' := s₁) (g' := (mkF m 1 #[.val (.int (4 : Int32))] [(.int (4 : Int32))])) (fun _ k => XS.iloadN X0.here hx rfl (hb hby d1_0) rfl k) ?_
    refine Go.st (T' := s₁) (g' := (mkF m 8 #[.val (.int (4 : Int32))] [])) (fun _ k => XS.ifYes X0.here hx rfl (pc0 := 1) (pc' := 8) rfl (hb hby d1_1) rfl ((if0 _ _).trans (feq ((by decide) : ¬ ((4 : Int32) = (0 : Int32)))).2) (by decide) (by decide) k) ?_
    refine Go.st (T' := s₁) (g' := (mkF m 9 #[.val (.int (4 : Int32))] [(.int (4 : Int32))])) (fun _ k => XS.iloadN X0.here hx rfl (hb hby d1_8) rfl k) ?_
    refine Go.st (T' := s₁) (g' := (mkF m 10 #[.val (.int (4 : Int32))] [(.int (1 : Int32)), (.int (4 : Int32))])) (fun _ k => XS.iconst X0.here hx rfl (hb hby d1_9) k) ?_
    refine Go.st (T' := s₁) (g' := (mkF m 17 #[.val (.int (4 : Int32))] [])) (fun _ k => XS.icmpYes X0.here hx rfl (pc0 := 10) (pc' := 17) rfl (hb hby d1_10) rfl (feq ((by decide) : ¬ ((4 : Int32) = (1 : Int32)))).2 (by decide) (by decide) k) ?_
    refine Go.st (T' := s₁) (g' := (mkF m 18 #[.val (.int (4 : Int32))] [(.int (4 : Int32))])) (fun _ k => XS.iloadN X0.here hx rfl (hb hby d1_17) rfl k) ?_
    refine Go.st (T' := s₁) (g' := (mkF m 19 #[.val (.int (4 : Int32))] [(.int (2 : Int32)), (.int (4 : Int32))])) (fun _ k => XS.iconst X0.here hx rfl (hb hby d1_18) k) ?_
    refine Go.st (T' := s₁) (g' := (mkF m 26 #[.val (.int (4 : Int32))] [])) (fun _ k => XS.icmpYes X0.here hx rfl (pc0 := 19) (pc' := 26) rfl (hb hby d1_19) rfl (feq ((by decide) : ¬ ((4 : Int32) = (2 : Int32)))).2 (by decide) (by decide) k) ?_
    refine Go.st (T' := s₁) (g' := (mkF m 27 #[.val (.int (4 : Int32))] [(.int (4 : Int32))])) (fun _ k => XS.iloadN X0.here hx rfl (hb hby d1_26) rfl k) ?_
    refine Go.st (T' := s₁) (g' := (mkF m 28 #[.val (.int (4 : Int32))] [(.int (3 : Int32)), (.int (4 : Int32))])) (fun _ k => XS.iconst X0.here hx rfl (hb hby d1_27) k) ?_
    refine Go.st (T' := s₁) (g' := (mkF m 35 #[.val (.int (4 : Int32))] [])) (fun _ k => XS.icmpYes X0.here hx rfl (pc0 := 28) (pc' := 35) rfl (hb hby d1_28) rfl (feq ((by decide) : ¬ ((4 : Int32) = (3 : Int32)))).2 (by decide) (by decide) k) ?_
    refine Go.st (T' := s₁) (g' := (mkF m 36 #[.val (.int (4 : Int32))] [(.int (4 : Int32))])) (fun _ k => XS.iloadN X0.here hx rfl (hb hby d1_35) rfl k) ?_
    refine Go.st (T' := s₁) (g' := (mkF m 37 #[.val (.int (4 : Int32))] [(.int (4 : Int32)), (.int (4 : Int32))])) (fun _ k => XS.iconst X0.here hx rfl (hb hby d1_36) k) ?_
    refine Go.st (T' := s₁) (g' := (mkF m 40 #[.val (.int (4 : Int32))] [])) (fun _ k => XS.icmpNo X0.here hx rfl (hb hby d1_37) rfl (teq ((by decide) : (4 : Int32) = (4 : Int32))).2 k) ?_
    obtain ⟨T5, X5, e5, st5⟩ := getS2 X0 hx hZ hown (host := "") (Or.inl (w43 hw)) Via.refl e0 (SS.2.2.2.2.1.ext O0.2) (g := (mkF m 40 #[.val (.int (4 : Int32))] [])) rfl (hb hby d1_40)
    refine Go.st (T' := T5) (g' := (mkF m 43 #[.val (.int (4 : Int32))] [(.ref (A 4))])) (fun _ k => st5 _ k) ?_
    refine Go.retA X5 hx hlk hret rfl rfl (hb hby d1_43) (by decide) (by decide) e5 ?_
    exact ⟨rfl, N0, rfl⟩
  · refine Go.st (T' := s₁) (g' := (mkF m 1 #[.val (.int (5 : Int32))] [(.int (5 : Int32))])) (fun _ k => XS.iloadN X0.here hx rfl (hb hby d1_0) rfl k) ?_
    refine Go.st (T' := s₁) (g' := (mkF m 8 #[.val (.int (5 : Int32))] [])) (fun _ k => XS.ifYes X0.here hx rfl (pc0 := 1) (pc' := 8) rfl (hb hby d1_1) rfl ((if0 _ _).trans (feq ((by decide) : ¬ ((5 : Int32) = (0 : Int32)))).2) (by decide) (by decide) k) ?_
    refine Go.st (T' := s₁) (g' := (mkF m 9 #[.val (.int (5 : Int32))] [(.int (5 : Int32))])) (fun _ k => XS.iloadN X0.here hx rfl (hb hby d1_8) rfl k) ?_
    refine Go.st (T' := s₁) (g' := (mkF m 10 #[.val (.int (5 : Int32))] [(.int (1 : Int32)), (.int (5 : Int32))])) (fun _ k => XS.iconst X0.here hx rfl (hb hby d1_9) k) ?_
    refine Go.st (T' := s₁) (g' := (mkF m 17 #[.val (.int (5 : Int32))] [])) (fun _ k => XS.icmpYes X0.here hx rfl (pc0 := 10) (pc' := 17) rfl (hb hby d1_10) rfl (feq ((by decide) : ¬ ((5 : Int32) = (1 : Int32)))).2 (by decide) (by decide) k) ?_
    refine Go.st (T' := s₁) (g' := (mkF m 18 #[.val (.int (5 : Int32))] [(.int (5 : Int32))])) (fun _ k => XS.iloadN X0.here hx rfl (hb hby d1_17) rfl k) ?_
    refine Go.st (T' := s₁) (g' := (mkF m 19 #[.val (.int (5 : Int32))] [(.int (2 : Int32)), (.int (5 : Int32))])) (fun _ k => XS.iconst X0.here hx rfl (hb hby d1_18) k) ?_
    refine Go.st (T' := s₁) (g' := (mkF m 26 #[.val (.int (5 : Int32))] [])) (fun _ k => XS.icmpYes X0.here hx rfl (pc0 := 19) (pc' := 26) rfl (hb hby d1_19) rfl (feq ((by decide) : ¬ ((5 : Int32) = (2 : Int32)))).2 (by decide) (by decide) k) ?_
    refine Go.st (T' := s₁) (g' := (mkF m 27 #[.val (.int (5 : Int32))] [(.int (5 : Int32))])) (fun _ k => XS.iloadN X0.here hx rfl (hb hby d1_26) rfl k) ?_
    refine Go.st (T' := s₁) (g' := (mkF m 28 #[.val (.int (5 : Int32))] [(.int (3 : Int32)), (.int (5 : Int32))])) (fun _ k => XS.iconst X0.here hx rfl (hb hby d1_27) k) ?_
    refine Go.st (T' := s₁) (g' := (mkF m 35 #[.val (.int (5 : Int32))] [])) (fun _ k => XS.icmpYes X0.here hx rfl (pc0 := 28) (pc' := 35) rfl (hb hby d1_28) rfl (feq ((by decide) : ¬ ((5 : Int32) = (3 : Int32)))).2 (by decide) (by decide) k) ?_
    refine Go.st (T' := s₁) (g' := (mkF m 36 #[.val (.int (5 : Int32))] [(.int (5 : Int32))])) (fun _ k => XS.iloadN X0.here hx rfl (hb hby d1_35) rfl k) ?_
    refine Go.st (T' := s₁) (g' := (mkF m 37 #[.val (.int (5 : Int32))] [(.int (4 : Int32)), (.int (5 : Int32))])) (fun _ k => XS.iconst X0.here hx rfl (hb hby d1_36) k) ?_
    refine Go.st (T' := s₁) (g' := (mkF m 44 #[.val (.int (5 : Int32))] [])) (fun _ k => XS.icmpYes X0.here hx rfl (pc0 := 37) (pc' := 44) rfl (hb hby d1_37) rfl (feq ((by decide) : ¬ ((5 : Int32) = (4 : Int32)))).2 (by decide) (by decide) k) ?_
    refine Go.st (T' := s₁) (g' := (mkF m 45 #[.val (.int (5 : Int32))] [(.int (5 : Int32))])) (fun _ k => XS.iloadN X0.here hx rfl (hb hby d1_44) rfl k) ?_
    refine Go.st (T' := s₁) (g' := (mkF m 46 #[.val (.int (5 : Int32))] [(.int (5 : Int32)), (.int (5 : Int32))])) (fun _ k => XS.iconst X0.here hx rfl (hb hby d1_45) k) ?_
    refine Go.st (T' := s₁) (g' := (mkF m 49 #[.val (.int (5 : Int32))] [])) (fun _ k => XS.icmpNo X0.here hx rfl (hb hby d1_46) rfl (teq ((by decide) : (5 : Int32) = (5 : Int32))).2 k) ?_
    obtain ⟨T6, X6, e6, st6⟩ := getS2 X0 hx hZ hown (host := "") (Or.inl (w50 hw)) Via.refl e0 (SS.2.2.2.2.2.1.ext O0.2) (g := (mkF m 49 #[.val (.int (5 : Int32))] [])) rfl (hb hby d1_49)
    refine Go.st (T' := T6) (g' := (mkF m 52 #[.val (.int (5 : Int32))] [(.ref (A 5))])) (fun _ k => st6 _ k) ?_
    refine Go.retA X6 hx hlk hret rfl rfl (hb hby d1_52) (by decide) (by decide) e6 ?_
    exact ⟨rfl, N0, rfl⟩
  · refine Go.st (T' := s₁) (g' := (mkF m 1 #[.val (.int (6 : Int32))] [(.int (6 : Int32))])) (fun _ k => XS.iloadN X0.here hx rfl (hb hby d1_0) rfl k) ?_
    refine Go.st (T' := s₁) (g' := (mkF m 8 #[.val (.int (6 : Int32))] [])) (fun _ k => XS.ifYes X0.here hx rfl (pc0 := 1) (pc' := 8) rfl (hb hby d1_1) rfl ((if0 _ _).trans (feq ((by decide) : ¬ ((6 : Int32) = (0 : Int32)))).2) (by decide) (by decide) k) ?_
    refine Go.st (T' := s₁) (g' := (mkF m 9 #[.val (.int (6 : Int32))] [(.int (6 : Int32))])) (fun _ k => XS.iloadN X0.here hx rfl (hb hby d1_8) rfl k) ?_
    refine Go.st (T' := s₁) (g' := (mkF m 10 #[.val (.int (6 : Int32))] [(.int (1 : Int32)), (.int (6 : Int32))])) (fun _ k => XS.iconst X0.here hx rfl (hb hby d1_9) k) ?_
    refine Go.st (T' := s₁) (g' := (mkF m 17 #[.val (.int (6 : Int32))] [])) (fun _ k => XS.icmpYes X0.here hx rfl (pc0 := 10) (pc' := 17) rfl (hb hby d1_10) rfl (feq ((by decide) : ¬ ((6 : Int32) = (1 : Int32)))).2 (by decide) (by decide) k) ?_
    refine Go.st (T' := s₁) (g' := (mkF m 18 #[.val (.int (6 : Int32))] [(.int (6 : Int32))])) (fun _ k => XS.iloadN X0.here hx rfl (hb hby d1_17) rfl k) ?_
    refine Go.st (T' := s₁) (g' := (mkF m 19 #[.val (.int (6 : Int32))] [(.int (2 : Int32)), (.int (6 : Int32))])) (fun _ k => XS.iconst X0.here hx rfl (hb hby d1_18) k) ?_
    refine Go.st (T' := s₁) (g' := (mkF m 26 #[.val (.int (6 : Int32))] [])) (fun _ k => XS.icmpYes X0.here hx rfl (pc0 := 19) (pc' := 26) rfl (hb hby d1_19) rfl (feq ((by decide) : ¬ ((6 : Int32) = (2 : Int32)))).2 (by decide) (by decide) k) ?_
    refine Go.st (T' := s₁) (g' := (mkF m 27 #[.val (.int (6 : Int32))] [(.int (6 : Int32))])) (fun _ k => XS.iloadN X0.here hx rfl (hb hby d1_26) rfl k) ?_
    refine Go.st (T' := s₁) (g' := (mkF m 28 #[.val (.int (6 : Int32))] [(.int (3 : Int32)), (.int (6 : Int32))])) (fun _ k => XS.iconst X0.here hx rfl (hb hby d1_27) k) ?_
    refine Go.st (T' := s₁) (g' := (mkF m 35 #[.val (.int (6 : Int32))] [])) (fun _ k => XS.icmpYes X0.here hx rfl (pc0 := 28) (pc' := 35) rfl (hb hby d1_28) rfl (feq ((by decide) : ¬ ((6 : Int32) = (3 : Int32)))).2 (by decide) (by decide) k) ?_
    refine Go.st (T' := s₁) (g' := (mkF m 36 #[.val (.int (6 : Int32))] [(.int (6 : Int32))])) (fun _ k => XS.iloadN X0.here hx rfl (hb hby d1_35) rfl k) ?_
    refine Go.st (T' := s₁) (g' := (mkF m 37 #[.val (.int (6 : Int32))] [(.int (4 : Int32)), (.int (6 : Int32))])) (fun _ k => XS.iconst X0.here hx rfl (hb hby d1_36) k) ?_
    refine Go.st (T' := s₁) (g' := (mkF m 44 #[.val (.int (6 : Int32))] [])) (fun _ k => XS.icmpYes X0.here hx rfl (pc0 := 37) (pc' := 44) rfl (hb hby d1_37) rfl (feq ((by decide) : ¬ ((6 : Int32) = (4 : Int32)))).2 (by decide) (by decide) k) ?_
    refine Go.st (T' := s₁) (g' := (mkF m 45 #[.val (.int (6 : Int32))] [(.int (6 : Int32))])) (fun _ k => XS.iloadN X0.here hx rfl (hb hby d1_44) rfl k) ?_
    refine Go.st (T' := s₁) (g' := (mkF m 46 #[.val (.int (6 : Int32))] [(.int (5 : Int32)), (.int (6 : Int32))])) (fun _ k => XS.iconst X0.here hx rfl (hb hby d1_45) k) ?_
    refine Go.st (T' := s₁) (g' := (mkF m 53 #[.val (.int (6 : Int32))] [])) (fun _ k => XS.icmpYes X0.here hx rfl (pc0 := 46) (pc' := 53) rfl (hb hby d1_46) rfl (feq ((by decide) : ¬ ((6 : Int32) = (5 : Int32)))).2 (by decide) (by decide) k) ?_
    refine Go.st (T' := s₁) (g' := (mkF m 54 #[.val (.int (6 : Int32))] [(.int (6 : Int32))])) (fun _ k => XS.iloadN X0.here hx rfl (hb hby d1_53) rfl k) ?_
    refine Go.st (T' := s₁) (g' := (mkF m 56 #[.val (.int (6 : Int32))] [(.int (6 : Int32)), (.int (6 : Int32))])) (fun _ k => XS.bipush X0.here hx rfl (hb hby d1_54) k) ?_
    refine Go.st (T' := s₁) (g' := (mkF m 59 #[.val (.int (6 : Int32))] [])) (fun _ k => XS.icmpNo X0.here hx rfl (hb hby d1_56) rfl (teq ((by decide) : (6 : Int32) = (6 : Int32))).2 k) ?_
    obtain ⟨T7, X7, e7, st7⟩ := getS2 X0 hx hZ hown (host := "") (Or.inl (w48 hw)) Via.refl e0 (SS.2.2.2.2.2.2.1.ext O0.2) (g := (mkF m 59 #[.val (.int (6 : Int32))] [])) rfl (hb hby d1_59)
    refine Go.st (T' := T7) (g' := (mkF m 62 #[.val (.int (6 : Int32))] [(.ref (A 6))])) (fun _ k => st7 _ k) ?_
    refine Go.retA X7 hx hlk hret rfl rfl (hb hby d1_62) (by decide) (by decide) e7 ?_
    exact ⟨rfl, N0, rfl⟩
  · refine Go.st (T' := s₁) (g' := (mkF m 1 #[.val (.int (7 : Int32))] [(.int (7 : Int32))])) (fun _ k => XS.iloadN X0.here hx rfl (hb hby d1_0) rfl k) ?_
    refine Go.st (T' := s₁) (g' := (mkF m 8 #[.val (.int (7 : Int32))] [])) (fun _ k => XS.ifYes X0.here hx rfl (pc0 := 1) (pc' := 8) rfl (hb hby d1_1) rfl ((if0 _ _).trans (feq ((by decide) : ¬ ((7 : Int32) = (0 : Int32)))).2) (by decide) (by decide) k) ?_
    refine Go.st (T' := s₁) (g' := (mkF m 9 #[.val (.int (7 : Int32))] [(.int (7 : Int32))])) (fun _ k => XS.iloadN X0.here hx rfl (hb hby d1_8) rfl k) ?_
    refine Go.st (T' := s₁) (g' := (mkF m 10 #[.val (.int (7 : Int32))] [(.int (1 : Int32)), (.int (7 : Int32))])) (fun _ k => XS.iconst X0.here hx rfl (hb hby d1_9) k) ?_
    refine Go.st (T' := s₁) (g' := (mkF m 17 #[.val (.int (7 : Int32))] [])) (fun _ k => XS.icmpYes X0.here hx rfl (pc0 := 10) (pc' := 17) rfl (hb hby d1_10) rfl (feq ((by decide) : ¬ ((7 : Int32) = (1 : Int32)))).2 (by decide) (by decide) k) ?_
    refine Go.st (T' := s₁) (g' := (mkF m 18 #[.val (.int (7 : Int32))] [(.int (7 : Int32))])) (fun _ k => XS.iloadN X0.here hx rfl (hb hby d1_17) rfl k) ?_
    refine Go.st (T' := s₁) (g' := (mkF m 19 #[.val (.int (7 : Int32))] [(.int (2 : Int32)), (.int (7 : Int32))])) (fun _ k => XS.iconst X0.here hx rfl (hb hby d1_18) k) ?_
    refine Go.st (T' := s₁) (g' := (mkF m 26 #[.val (.int (7 : Int32))] [])) (fun _ k => XS.icmpYes X0.here hx rfl (pc0 := 19) (pc' := 26) rfl (hb hby d1_19) rfl (feq ((by decide) : ¬ ((7 : Int32) = (2 : Int32)))).2 (by decide) (by decide) k) ?_
    refine Go.st (T' := s₁) (g' := (mkF m 27 #[.val (.int (7 : Int32))] [(.int (7 : Int32))])) (fun _ k => XS.iloadN X0.here hx rfl (hb hby d1_26) rfl k) ?_
    refine Go.st (T' := s₁) (g' := (mkF m 28 #[.val (.int (7 : Int32))] [(.int (3 : Int32)), (.int (7 : Int32))])) (fun _ k => XS.iconst X0.here hx rfl (hb hby d1_27) k) ?_
    refine Go.st (T' := s₁) (g' := (mkF m 35 #[.val (.int (7 : Int32))] [])) (fun _ k => XS.icmpYes X0.here hx rfl (pc0 := 28) (pc' := 35) rfl (hb hby d1_28) rfl (feq ((by decide) : ¬ ((7 : Int32) = (3 : Int32)))).2 (by decide) (by decide) k) ?_
    refine Go.st (T' := s₁) (g' := (mkF m 36 #[.val (.int (7 : Int32))] [(.int (7 : Int32))])) (fun _ k => XS.iloadN X0.here hx rfl (hb hby d1_35) rfl k) ?_
    refine Go.st (T' := s₁) (g' := (mkF m 37 #[.val (.int (7 : Int32))] [(.int (4 : Int32)), (.int (7 : Int32))])) (fun _ k => XS.iconst X0.here hx rfl (hb hby d1_36) k) ?_
    refine Go.st (T' := s₁) (g' := (mkF m 44 #[.val (.int (7 : Int32))] [])) (fun _ k => XS.icmpYes X0.here hx rfl (pc0 := 37) (pc' := 44) rfl (hb hby d1_37) rfl (feq ((by decide) : ¬ ((7 : Int32) = (4 : Int32)))).2 (by decide) (by decide) k) ?_
    refine Go.st (T' := s₁) (g' := (mkF m 45 #[.val (.int (7 : Int32))] [(.int (7 : Int32))])) (fun _ k => XS.iloadN X0.here hx rfl (hb hby d1_44) rfl k) ?_
    refine Go.st (T' := s₁) (g' := (mkF m 46 #[.val (.int (7 : Int32))] [(.int (5 : Int32)), (.int (7 : Int32))])) (fun _ k => XS.iconst X0.here hx rfl (hb hby d1_45) k) ?_
    refine Go.st (T' := s₁) (g' := (mkF m 53 #[.val (.int (7 : Int32))] [])) (fun _ k => XS.icmpYes X0.here hx rfl (pc0 := 46) (pc' := 53) rfl (hb hby d1_46) rfl (feq ((by decide) : ¬ ((7 : Int32) = (5 : Int32)))).2 (by decide) (by decide) k) ?_
    refine Go.st (T' := s₁) (g' := (mkF m 54 #[.val (.int (7 : Int32))] [(.int (7 : Int32))])) (fun _ k => XS.iloadN X0.here hx rfl (hb hby d1_53) rfl k) ?_
    refine Go.st (T' := s₁) (g' := (mkF m 56 #[.val (.int (7 : Int32))] [(.int (6 : Int32)), (.int (7 : Int32))])) (fun _ k => XS.bipush X0.here hx rfl (hb hby d1_54) k) ?_
    refine Go.st (T' := s₁) (g' := (mkF m 63 #[.val (.int (7 : Int32))] [])) (fun _ k => XS.icmpYes X0.here hx rfl (pc0 := 56) (pc' := 63) rfl (hb hby d1_56) rfl (feq ((by decide) : ¬ ((7 : Int32) = (6 : Int32)))).2 (by decide) (by decide) k) ?_
    refine Go.st (T' := s₁) (g' := (mkF m 64 #[.val (.int (7 : Int32))] [(.int (7 : Int32))])) (fun _ k => XS.iloadN X0.here hx rfl (hb hby d1_63) rfl k) ?_
    refine Go.st (T' := s₁) (g' := (mkF m 66 #[.val (.int (7 : Int32))] [(.int (7 : Int32)), (.int (7 : Int32))])) (fun _ k => XS.bipush X0.here hx rfl (hb hby d1_64) k) ?_
    refine Go.st (T' := s₁) (g' := (mkF m 69 #[.val (.int (7 : Int32))] [])) (fun _ k => XS.icmpNo X0.here hx rfl (hb hby d1_66) rfl (teq ((by decide) : (7 : Int32) = (7 : Int32))).2 k) ?_
    obtain ⟨T8, X8, e8, st8⟩ := getS2 X0 hx hZ hown (host := "") (Or.inl (w41 hw)) Via.refl e0 (SS.2.2.2.2.2.2.2.1.ext O0.2) (g := (mkF m 69 #[.val (.int (7 : Int32))] [])) rfl (hb hby d1_69)
    refine Go.st (T' := T8) (g' := (mkF m 72 #[.val (.int (7 : Int32))] [(.ref (A 7))])) (fun _ k => st8 _ k) ?_
    refine Go.retA X8 hx hlk hret rfl rfl (hb hby d1_72) (by decide) (by decide) e8 ?_
    exact ⟨rfl, N0, rfl⟩
  · refine Go.st (T' := s₁) (g' := (mkF m 1 #[.val (.int (8 : Int32))] [(.int (8 : Int32))])) (fun _ k => XS.iloadN X0.here hx rfl (hb hby d1_0) rfl k) ?_
    refine Go.st (T' := s₁) (g' := (mkF m 8 #[.val (.int (8 : Int32))] [])) (fun _ k => XS.ifYes X0.here hx rfl (pc0 := 1) (pc' := 8) rfl (hb hby d1_1) rfl ((if0 _ _).trans (feq ((by decide) : ¬ ((8 : Int32) = (0 : Int32)))).2) (by decide) (by decide) k) ?_
    refine Go.st (T' := s₁) (g' := (mkF m 9 #[.val (.int (8 : Int32))] [(.int (8 : Int32))])) (fun _ k => XS.iloadN X0.here hx rfl (hb hby d1_8) rfl k) ?_
    refine Go.st (T' := s₁) (g' := (mkF m 10 #[.val (.int (8 : Int32))] [(.int (1 : Int32)), (.int (8 : Int32))])) (fun _ k => XS.iconst X0.here hx rfl (hb hby d1_9) k) ?_
    refine Go.st (T' := s₁) (g' := (mkF m 17 #[.val (.int (8 : Int32))] [])) (fun _ k => XS.icmpYes X0.here hx rfl (pc0 := 10) (pc' := 17) rfl (hb hby d1_10) rfl (feq ((by decide) : ¬ ((8 : Int32) = (1 : Int32)))).2 (by decide) (by decide) k) ?_
    refine Go.st (T' := s₁) (g' := (mkF m 18 #[.val (.int (8 : Int32))] [(.int (8 : Int32))])) (fun _ k => XS.iloadN X0.here hx rfl (hb hby d1_17) rfl k) ?_
    refine Go.st (T' := s₁) (g' := (mkF m 19 #[.val (.int (8 : Int32))] [(.int (2 : Int32)), (.int (8 : Int32))])) (fun _ k => XS.iconst X0.here hx rfl (hb hby d1_18) k) ?_
    refine Go.st (T' := s₁) (g' := (mkF m 26 #[.val (.int (8 : Int32))] [])) (fun _ k => XS.icmpYes X0.here hx rfl (pc0 := 19) (pc' := 26) rfl (hb hby d1_19) rfl (feq ((by decide) : ¬ ((8 : Int32) = (2 : Int32)))).2 (by decide) (by decide) k) ?_
    refine Go.st (T' := s₁) (g' := (mkF m 27 #[.val (.int (8 : Int32))] [(.int (8 : Int32))])) (fun _ k => XS.iloadN X0.here hx rfl (hb hby d1_26) rfl k) ?_
    refine Go.st (T' := s₁) (g' := (mkF m 28 #[.val (.int (8 : Int32))] [(.int (3 : Int32)), (.int (8 : Int32))])) (fun _ k => XS.iconst X0.here hx rfl (hb hby d1_27) k) ?_
    refine Go.st (T' := s₁) (g' := (mkF m 35 #[.val (.int (8 : Int32))] [])) (fun _ k => XS.icmpYes X0.here hx rfl (pc0 := 28) (pc' := 35) rfl (hb hby d1_28) rfl (feq ((by decide) : ¬ ((8 : Int32) = (3 : Int32)))).2 (by decide) (by decide) k) ?_
    refine Go.st (T' := s₁) (g' := (mkF m 36 #[.val (.int (8 : Int32))] [(.int (8 : Int32))])) (fun _ k => XS.iloadN X0.here hx rfl (hb hby d1_35) rfl k) ?_
    refine Go.st (T' := s₁) (g' := (mkF m 37 #[.val (.int (8 : Int32))] [(.int (4 : Int32)), (.int (8 : Int32))])) (fun _ k => XS.iconst X0.here hx rfl (hb hby d1_36) k) ?_
    refine Go.st (T' := s₁) (g' := (mkF m 44 #[.val (.int (8 : Int32))] [])) (fun _ k => XS.icmpYes X0.here hx rfl (pc0 := 37) (pc' := 44) rfl (hb hby d1_37) rfl (feq ((by decide) : ¬ ((8 : Int32) = (4 : Int32)))).2 (by decide) (by decide) k) ?_
    refine Go.st (T' := s₁) (g' := (mkF m 45 #[.val (.int (8 : Int32))] [(.int (8 : Int32))])) (fun _ k => XS.iloadN X0.here hx rfl (hb hby d1_44) rfl k) ?_
    refine Go.st (T' := s₁) (g' := (mkF m 46 #[.val (.int (8 : Int32))] [(.int (5 : Int32)), (.int (8 : Int32))])) (fun _ k => XS.iconst X0.here hx rfl (hb hby d1_45) k) ?_
    refine Go.st (T' := s₁) (g' := (mkF m 53 #[.val (.int (8 : Int32))] [])) (fun _ k => XS.icmpYes X0.here hx rfl (pc0 := 46) (pc' := 53) rfl (hb hby d1_46) rfl (feq ((by decide) : ¬ ((8 : Int32) = (5 : Int32)))).2 (by decide) (by decide) k) ?_
    refine Go.st (T' := s₁) (g' := (mkF m 54 #[.val (.int (8 : Int32))] [(.int (8 : Int32))])) (fun _ k => XS.iloadN X0.here hx rfl (hb hby d1_53) rfl k) ?_
    refine Go.st (T' := s₁) (g' := (mkF m 56 #[.val (.int (8 : Int32))] [(.int (6 : Int32)), (.int (8 : Int32))])) (fun _ k => XS.bipush X0.here hx rfl (hb hby d1_54) k) ?_
    refine Go.st (T' := s₁) (g' := (mkF m 63 #[.val (.int (8 : Int32))] [])) (fun _ k => XS.icmpYes X0.here hx rfl (pc0 := 56) (pc' := 63) rfl (hb hby d1_56) rfl (feq ((by decide) : ¬ ((8 : Int32) = (6 : Int32)))).2 (by decide) (by decide) k) ?_
    refine Go.st (T' := s₁) (g' := (mkF m 64 #[.val (.int (8 : Int32))] [(.int (8 : Int32))])) (fun _ k => XS.iloadN X0.here hx rfl (hb hby d1_63) rfl k) ?_
    refine Go.st (T' := s₁) (g' := (mkF m 66 #[.val (.int (8 : Int32))] [(.int (7 : Int32)), (.int (8 : Int32))])) (fun _ k => XS.bipush X0.here hx rfl (hb hby d1_64) k) ?_
    refine Go.st (T' := s₁) (g' := (mkF m 73 #[.val (.int (8 : Int32))] [])) (fun _ k => XS.icmpYes X0.here hx rfl (pc0 := 66) (pc' := 73) rfl (hb hby d1_66) rfl (feq ((by decide) : ¬ ((8 : Int32) = (7 : Int32)))).2 (by decide) (by decide) k) ?_
    obtain ⟨T9, X9, e9, st9⟩ := getS2 X0 hx hZ hown (host := "") (Or.inl (w46 hw)) Via.refl e0 (SS.2.2.2.2.2.2.2.2.ext O0.2) (g := (mkF m 73 #[.val (.int (8 : Int32))] [])) rfl (hb hby d1_73)
    refine Go.st (T' := T9) (g' := (mkF m 76 #[.val (.int (8 : Int32))] [(.ref (A 8))])) (fun _ k => st9 _ k) ?_
    refine Go.retA X9 hx hlk hret rfl rfl (hb hby d1_76) (by decide) (by decide) e9 ?_
    exact ⟨rfl, N0, rfl⟩
theorem own_mod9 (x : Int32) : ((x &&& 2147483647) % 9) = 0 ∨ ((x &&& 2147483647) % 9) = 1 ∨ ((x &&& 2147483647) % 9) = 2 ∨ ((x &&& 2147483647) % 9) = 3 ∨ ((x &&& 2147483647) % 9) = 4 ∨ ((x &&& 2147483647) % 9) = 5 ∨ ((x &&& 2147483647) % 9) = 6 ∨ ((x &&& 2147483647) % 9) = 7 ∨ ((x &&& 2147483647) % 9) = 8 := by
  have h := c_mask x 2147483647 31 (by decide) (by decide)
  have h1 := (c_irem (x &&& 2147483647) 9 9 (by decide)).1 (by omega)
  have e : ∀ k : Int32, ((x &&& 2147483647) % 9).toInt = k.toInt → ((x &&& 2147483647) % 9) = k := fun k q => Int32.toInt_inj.mp q
  have h2 : ((x &&& 2147483647) % 9).toInt = 0 ∨ ((x &&& 2147483647) % 9).toInt = 1 ∨ ((x &&& 2147483647) % 9).toInt = 2 ∨ ((x &&& 2147483647) % 9).toInt = 3 ∨ ((x &&& 2147483647) % 9).toInt = 4 ∨ ((x &&& 2147483647) % 9).toInt = 5 ∨ ((x &&& 2147483647) % 9).toInt = 6 ∨ ((x &&& 2147483647) % 9).toInt = 7 ∨ ((x &&& 2147483647) % 9).toInt = 8 := by omega
  rcases h2 with q | q | q | q | q | q | q | q | q
  · exact (Or.inl (e 0 q))
  · exact (Or.inr (Or.inl (e 1 q)))
  · exact (Or.inr (Or.inr (Or.inl (e 2 q))))
  · exact (Or.inr (Or.inr (Or.inr (Or.inl (e 3 q)))))
  · exact (Or.inr (Or.inr (Or.inr (Or.inr (Or.inl (e 4 q))))))
  · exact (Or.inr (Or.inr (Or.inr (Or.inr (Or.inr (Or.inl (e 5 q)))))))
  · exact (Or.inr (Or.inr (Or.inr (Or.inr (Or.inr (Or.inr (Or.inl (e 6 q))))))))
  · exact (Or.inr (Or.inr (Or.inr (Or.inr (Or.inr (Or.inr (Or.inr (Or.inl (e 7 q)))))))))
  · exact (Or.inr (Or.inr (Or.inr (Or.inr (Or.inr (Or.inr (Or.inr (Or.inr (e 8 q)))))))))
theorem w0 {a0 : Array Value} {Z : State} (hw : ∀ d ∈ tables_1, d.before a0 Z = true) : ((Jvm.Cond.constant "com/example/patience/patience/congruence/FormatIsRootedPinLaw" (37 : Nat) (2147483647 : Int32))).before a0 Z = true := hw _ (List.mem_of_getElem? (i := 0) rfl)
theorem w4 {a0 : Array Value} {Z : State} (hw : ∀ d ∈ tables_1, d.before a0 Z = true) : ((Jvm.Cond.code ({ cls := "com/example/patience/patience/congruence/FormatIsRootedPinLaw", name := "pick", desc := "(I)Lcom/example/patience/patience/congruence/Format;" } : Jvm.MethodName) method_2_code (1 : Nat) (Option.some (Jvm.ClassFile.FieldType.object "com/example/patience/patience/congruence/Format")))).before a0 Z = true := hw _ (List.mem_of_getElem? (i := 4) rfl)
theorem w3 {a0 : Array Value} {Z : State} (hw : ∀ d ∈ tables_1, d.before a0 Z = true) : ((Jvm.Cond.initialized "com/example/patience/patience/congruence/FormatIsRootedPinLaw")).before a0 Z = true := hw _ (List.mem_of_getElem? (i := 3) rfl)
theorem pd2 : parseMethodDescriptor "(I)Lcom/example/patience/patience/congruence/Format;" = some ⟨[.int], some (.object "com/example/patience/patience/congruence/Format")⟩ := by decide +kernel
theorem w1 {a0 : Array Value} {Z : State} (hw : ∀ d ∈ tables_1, d.before a0 Z = true) : ((Jvm.Cond.methodLink "com/example/patience/patience/congruence/FormatIsRootedPinLaw" (38 : Nat) ({ cls := "com/example/patience/patience/congruence/FormatIsRootedPinLaw", name := "pick", desc := "(I)Lcom/example/patience/patience/congruence/Format;" } : Jvm.MethodName))).before a0 Z = true := hw _ (List.mem_of_getElem? (i := 1) rfl)
theorem w2 {a0 : Array Value} {Z : State} (hw : ∀ d ∈ tables_1, d.before a0 Z = true) : ((Jvm.Cond.static ({ cls := "com/example/patience/patience/congruence/FormatIsRootedPinLaw", name := "pick", desc := "(I)Lcom/example/patience/patience/congruence/Format;" } : Jvm.MethodName))).before a0 Z = true := hw _ (List.mem_of_getElem? (i := 2) rfl)
theorem w12 {a0 : Array Value} {Z : State} (hw : ∀ d ∈ tables_1, d.before a0 Z = true) : ((Jvm.Cond.code ({ cls := "com/example/patience/patience/congruence/Format", name := "isRooted", desc := "()Z" } : Jvm.MethodName) prog_21_method_7_code (1 : Nat) (Option.some Jvm.ClassFile.FieldType.boolean))).before a0 Z = true := hw _ (List.mem_of_getElem? (i := 12) rfl)
theorem w6 {a0 : Array Value} {Z : State} (hw : ∀ d ∈ tables_1, d.before a0 Z = true) : ((Jvm.Cond.initialized "com/example/patience/patience/congruence/Format")).before a0 Z = true := hw _ (List.mem_of_getElem? (i := 6) rfl)
theorem pd3 : parseMethodDescriptor "()Z" = some ⟨[], some .boolean⟩ := by decide +kernel
theorem w11 {a0 : Array Value} {Z : State} (hw : ∀ d ∈ tables_1, d.before a0 Z = true) : ((Jvm.Cond.selects "com/example/patience/patience/congruence/Format" ({ cls := "com/example/patience/patience/congruence/Format", name := "isRooted", desc := "()Z" } : Jvm.MethodName) ({ cls := "com/example/patience/patience/congruence/Format", name := "isRooted", desc := "()Z" } : Jvm.MethodName))).before a0 Z = true := hw _ (List.mem_of_getElem? (i := 11) rfl)
theorem w10 {a0 : Array Value} {Z : State} (hw : ∀ d ∈ tables_1, d.before a0 Z = true) : ((Jvm.Cond.instanceMethod ({ cls := "com/example/patience/patience/congruence/Format", name := "isRooted", desc := "()Z" } : Jvm.MethodName))).before a0 Z = true := hw _ (List.mem_of_getElem? (i := 10) rfl)
theorem w8 {a0 : Array Value} {Z : State} (hw : ∀ d ∈ tables_1, d.before a0 Z = true) : ((Jvm.Cond.methodLink "com/example/patience/patience/congruence/FormatIsRootedPinLaw" (44 : Nat) ({ cls := "com/example/patience/patience/congruence/Format", name := "isRooted", desc := "()Z" } : Jvm.MethodName))).before a0 Z = true := hw _ (List.mem_of_getElem? (i := 8) rfl)
theorem w9 {a0 : Array Value} {Z : State} (hw : ∀ d ∈ tables_1, d.before a0 Z = true) : ((Jvm.Cond.declares ({ cls := "com/example/patience/patience/congruence/Format", name := "isRooted", desc := "()Z" } : Jvm.MethodName))).before a0 Z = true := hw _ (List.mem_of_getElem? (i := 9) rfl)
theorem w19 {a0 : Array Value} {Z : State} (hw : ∀ d ∈ tables_1, d.before a0 Z = true) : ((Jvm.Cond.code ({ cls := "com/example/patience/patience/congruence/Format", name := "equivalence", desc := "()Lcom/example/patience/patience/equivalence/Equivalence;" } : Jvm.MethodName) prog_21_method_5_code (1 : Nat) (Option.some (Jvm.ClassFile.FieldType.object "com/example/patience/patience/equivalence/Equivalence")))).before a0 Z = true := hw _ (List.mem_of_getElem? (i := 19) rfl)
theorem pd4 : parseMethodDescriptor "()Lcom/example/patience/patience/equivalence/Equivalence;" = some ⟨[], some (.object "com/example/patience/patience/equivalence/Equivalence")⟩ := by decide +kernel
theorem w18 {a0 : Array Value} {Z : State} (hw : ∀ d ∈ tables_1, d.before a0 Z = true) : ((Jvm.Cond.selects "com/example/patience/patience/congruence/Format" ({ cls := "com/example/patience/patience/congruence/Format", name := "equivalence", desc := "()Lcom/example/patience/patience/equivalence/Equivalence;" } : Jvm.MethodName) ({ cls := "com/example/patience/patience/congruence/Format", name := "equivalence", desc := "()Lcom/example/patience/patience/equivalence/Equivalence;" } : Jvm.MethodName))).before a0 Z = true := hw _ (List.mem_of_getElem? (i := 18) rfl)
theorem w17 {a0 : Array Value} {Z : State} (hw : ∀ d ∈ tables_1, d.before a0 Z = true) : ((Jvm.Cond.instanceMethod ({ cls := "com/example/patience/patience/congruence/Format", name := "equivalence", desc := "()Lcom/example/patience/patience/equivalence/Equivalence;" } : Jvm.MethodName))).before a0 Z = true := hw _ (List.mem_of_getElem? (i := 17) rfl)
theorem w15 {a0 : Array Value} {Z : State} (hw : ∀ d ∈ tables_1, d.before a0 Z = true) : ((Jvm.Cond.methodLink "com/example/patience/patience/congruence/FormatIsRootedPinLaw" (48 : Nat) ({ cls := "com/example/patience/patience/congruence/Format", name := "equivalence", desc := "()Lcom/example/patience/patience/equivalence/Equivalence;" } : Jvm.MethodName))).before a0 Z = true := hw _ (List.mem_of_getElem? (i := 15) rfl)
theorem w16 {a0 : Array Value} {Z : State} (hw : ∀ d ∈ tables_1, d.before a0 Z = true) : ((Jvm.Cond.declares ({ cls := "com/example/patience/patience/congruence/Format", name := "equivalence", desc := "()Lcom/example/patience/patience/equivalence/Equivalence;" } : Jvm.MethodName))).before a0 Z = true := hw _ (List.mem_of_getElem? (i := 16) rfl)
theorem w24 {a0 : Array Value} {Z : State} (hw : ∀ d ∈ tables_1, d.before a0 Z = true) : ((Jvm.Cond.fieldLink "com/example/patience/patience/congruence/FormatIsRootedPinLaw" (52 : Nat) "com/example/patience/patience/equivalence/Equivalence" "ROOTED_WEAK" "Lcom/example/patience/patience/equivalence/Equivalence;")).before a0 Z = true := hw _ (List.mem_of_getElem? (i := 24) rfl)
theorem w26 {a0 : Array Value} {Z : State} (hw : ∀ d ∈ tables_1, d.before a0 Z = true) : ((Jvm.Cond.fieldLink "com/example/patience/patience/congruence/FormatIsRootedPinLaw" (58 : Nat) "com/example/patience/patience/equivalence/Equivalence" "ROOTED_DELAY" "Lcom/example/patience/patience/equivalence/Equivalence;")).before a0 Z = true := hw _ (List.mem_of_getElem? (i := 26) rfl)
theorem w28 {a0 : Array Value} {Z : State} (hw : ∀ d ∈ tables_1, d.before a0 Z = true) : ((Jvm.Cond.fieldLink "com/example/patience/patience/congruence/FormatIsRootedPinLaw" (61 : Nat) "com/example/patience/patience/equivalence/Equivalence" "ROOTED_ETA" "Lcom/example/patience/patience/equivalence/Equivalence;")).before a0 Z = true := hw _ (List.mem_of_getElem? (i := 28) rfl)
theorem w30 {a0 : Array Value} {Z : State} (hw : ∀ d ∈ tables_1, d.before a0 Z = true) : ((Jvm.Cond.fieldLink "com/example/patience/patience/congruence/FormatIsRootedPinLaw" (64 : Nat) "com/example/patience/patience/equivalence/Equivalence" "ROOTED_BRANCHING" "Lcom/example/patience/patience/equivalence/Equivalence;")).before a0 Z = true := hw _ (List.mem_of_getElem? (i := 30) rfl)
set_option maxRecDepth 65536 in
set_option maxHeartbeats 40000000 in
theorem rm_law (l : Launch) (Z : State) (a0 : Array Value) (hw : ∀ d ∈ tables_1, d.before a0 Z = true) (ws : List Jvm.Cond) (x0 : Int32) (A B : Nat → Addr) (h0 : Heap) (n0 : Nat) (Z0 : n0 ≤ h0.size) (O0 : Old Z n0 h0) (SS : Sts Z A) (ES : Ets Z B) (EE : Exs Z A) (TM : Tms Z A) (QE : Eqs Z A B) (OR : Ors Z B) :
    Con l Z x code maxLocals ret ws room_1 #[(.int x0)] h0 (fun v h L => v = some (.int 1) ∧ Fr n0 L) := by
  refine Con.enter (plainFor_of_name pn1) ?_
  intro p e s m below meth c s₁ X0 hx hZ hby hml hret hlk hown hnm e0
  have N0 := Fr.nil n0
  refine Go.cast (g' := (mkF m 0 #[.val (.int x0), .unset, .unset, .unset, .unset, .unset, .unset] [])) (by first | rfl | (simp [entryFrame, mkF, argsToLocals, Value.category, maxLocals]; done)) ?_
  refine Go.st (T' := s₁) (g' := (mkF m 1 #[.val (.int x0), .unset, .unset, .unset, .unset, .unset, .unset] [(.int x0)])) (fun _ k => XS.iloadN X0.here hx rfl (hb hby at_0) rfl k) ?_
  refine Go.st (T' := s₁) (g' := (mkF m 3 #[.val (.int x0), .unset, .unset, .unset, .unset, .unset, .unset] [(.int (2147483647 : Int32)), (.int x0)])) (fun _ k => X0.ldcI hx hown (mvT hZ (w0 hw)) rfl (hb hby at_1) k) ?_
  refine Go.st (T' := s₁) (g' := (mkF m 4 #[.val (.int x0), .unset, .unset, .unset, .unset, .unset, .unset] [(.int (x0 &&& (2147483647 : Int32)))])) (fun _ k => XS.iand X0.here hx rfl (hb hby at_3) rfl k) ?_
  refine Go.st (T' := s₁) (g' := (mkF m 6 #[.val (.int x0), .unset, .unset, .unset, .unset, .unset, .unset] [(.int (9 : Int32)), (.int (x0 &&& (2147483647 : Int32)))])) (fun _ k => XS.bipush X0.here hx rfl (hb hby at_4) k) ?_
  refine Go.st (T' := s₁) (g' := (mkF m 7 #[.val (.int x0), .unset, .unset, .unset, .unset, .unset, .unset] [(.int ((x0 &&& (2147483647 : Int32)) % (9 : Int32)))])) (fun _ k => iremM X0 hx rfl (hb hby at_6) rfl (by decide) k) ?_
  obtain ⟨k, hk⟩ : ∃ k, k = ((x0 &&& (2147483647 : Int32)) % (9 : Int32)) := ⟨_, rfl⟩
  rw [← hk]
  have hk9 := own_mod9 x0
  rw [← hk] at hk9
  rcases hk9 with rfl | rfl | rfl | rfl | rfl | rfl | rfl | rfl | rfl
  · refine Go.st (T' := s₁) (g' := (mkF m 8 #[.val (.int x0), .val (.int (0 : Int32)), .unset, .unset, .unset, .unset, .unset] [])) (fun _ k => XS.istoreN X0.here hx rfl (hb hby at_7) rfl (l' := #[.val (.int x0), .val (.int (0 : Int32)), .unset, .unset, .unset, .unset, .unset]) rfl k) ?_
    refine Go.st (T' := s₁) (g' := (mkF m 9 #[.val (.int x0), .val (.int (0 : Int32)), .unset, .unset, .unset, .unset, .unset] [(.int (0 : Int32))])) (fun _ k => XS.iloadN X0.here hx rfl (hb hby at_8) rfl k) ?_
    refine Go.callSt (y := (⟨"com/example/patience/patience/congruence/FormatIsRootedPinLaw", "pick", "(I)Lcom/example/patience/patience/congruence/Format;"⟩ : MethodName)) X0 hx hZ hown e0 (w1 hw) (w2 hw) (w3 hw) (w4 hw) (by decide) (argsL := [(.int (0 : Int32))]) (rest := []) (W := 0) (rm_pick l Z a0 hw [] (0 : Int32) (A 0) A h0 n0 Z0 O0 SS (Or.inl ⟨rfl, rfl⟩)) rfl (lenOf pd2 rfl) rfl (by rw [hml]; rfl) rfl (by show 2 * 0 + _ ≤ _; exact Nat.le_of_eq rfl) (by decide) (by decide) (by decide) (by decide) (hb hby at_9) ?_
    intro v1 T1 h1 L1 X1 e1 q1
    obtain ⟨hv1, Nf1, hh1⟩ := q1
    subst hv1
    have E1 : T1.heap = h0 := e1.trans hh1
    have N1 := Fr.app N0 Nf1
    show Go p.tables e below _ T1 (mkF m 12 #[.val (.int x0), .val (.int (0 : Int32)), .unset, .unset, .unset, .unset, .unset] [(.ref (A 0))])
    refine Go.st (T' := T1) (g' := (mkF m 13 #[.val (.int x0), .val (.int (0 : Int32)), .val (.ref (A 0)), .unset, .unset, .unset, .unset] [])) (fun _ k => XS.astoreN X1.here hx rfl (hb hby at_12) rfl rfl (l' := #[.val (.int x0), .val (.int (0 : Int32)), .val (.ref (A 0)), .unset, .unset, .unset, .unset]) rfl k) ?_
    refine Go.st (T' := T1) (g' := (mkF m 14 #[.val (.int x0), .val (.int (0 : Int32)), .val (.ref (A 0)), .unset, .unset, .unset, .unset] [(.ref (A 0))])) (fun _ k => XS.aloadN X1.here hx rfl (hb hby at_13) rfl rfl k) ?_
    refine Go.callV (y := (⟨"com/example/patience/patience/congruence/Format", "isRooted", "()Z"⟩ : MethodName)) (z := (⟨"com/example/patience/patience/congruence/Format", "isRooted", "()Z"⟩ : MethodName)) (C := "com/example/patience/patience/congruence/Format") (a := (A 0)) X1 hx hZ hown E1 (w8 hw) (w9 hw) (w11 hw) (w10 hw) (w6 hw) (w12 hw) (notFace_of_selects (args := #[]) (mvT hZ (w11 hw))) (by decide) (EE.1.ext O0.2) (argsL := []) (rest := []) (W := 0) (rm_rootedN l Z a0 hw [] (A 0) h0 n0 Z0 (TM.1.ext O0.2)) rfl (lenOf pd3 rfl) rfl (by rw [hml]; rfl) rfl (by show 2 * 0 + _ ≤ _; exact Nat.le_of_eq rfl) (by decide) (by decide) (by decide) (by decide) (hb hby at_14) ?_
    intro v2 T2 h2 L2 X2 e2 q2
    obtain ⟨hv2, Nf2, hh2⟩ := q2
    subst hv2
    have E2 : T2.heap = h0 := e2.trans hh2
    have N2 := Fr.app N1 Nf2
    show Go p.tables e below _ T2 (mkF m 17 #[.val (.int x0), .val (.int (0 : Int32)), .val (.ref (A 0)), .unset, .unset, .unset, .unset] [(.int (0 : Int32))])
    refine Go.st (T' := T2) (g' := (mkF m 18 #[.val (.int x0), .val (.int (0 : Int32)), .val (.ref (A 0)), .val (.int (0 : Int32)), .unset, .unset, .unset] [])) (fun _ k => XS.istoreN X2.here hx rfl (hb hby at_17) rfl (l' := #[.val (.int x0), .val (.int (0 : Int32)), .val (.ref (A 0)), .val (.int (0 : Int32)), .unset, .unset, .unset]) rfl k) ?_
    refine Go.st (T' := T2) (g' := (mkF m 19 #[.val (.int x0), .val (.int (0 : Int32)), .val (.ref (A 0)), .val (.int (0 : Int32)), .unset, .unset, .unset] [(.ref (A 0))])) (fun _ k => XS.aloadN X2.here hx rfl (hb hby at_18) rfl rfl k) ?_
    refine Go.callV (y := (⟨"com/example/patience/patience/congruence/Format", "equivalence", "()Lcom/example/patience/patience/equivalence/Equivalence;"⟩ : MethodName)) (z := (⟨"com/example/patience/patience/congruence/Format", "equivalence", "()Lcom/example/patience/patience/equivalence/Equivalence;"⟩ : MethodName)) (C := "com/example/patience/patience/congruence/Format") (a := (A 0)) X2 hx hZ hown E2 (w15 hw) (w16 hw) (w18 hw) (w17 hw) (w6 hw) (w19 hw) (notFace_of_selects (args := #[]) (mvT hZ (w18 hw))) (by decide) (EE.1.ext O0.2) (argsL := []) (rest := []) (W := 0) (rm_equivalence l Z a0 hw [] (A 0) (B 0) h0 n0 Z0 (QE.1.ext O0.2)) rfl (lenOf pd4 rfl) rfl (by rw [hml]; rfl) rfl (by show 2 * 0 + _ ≤ _; exact Nat.le_of_eq rfl) (by decide) (by decide) (by decide) (by decide) (hb hby at_19) ?_
    intro v3 T3 h3 L3 X3 e3 q3
    obtain ⟨hv3, Nf3, hh3⟩ := q3
    subst hv3
    have E3 : T3.heap = h0 := e3.trans hh3
    have N3 := Fr.app N2 Nf3
    show Go p.tables e below _ T3 (mkF m 22 #[.val (.int x0), .val (.int (0 : Int32)), .val (.ref (A 0)), .val (.int (0 : Int32)), .unset, .unset, .unset] [(.ref (B 0))])
    refine Go.st (T' := T3) (g' := (mkF m 24 #[.val (.int x0), .val (.int (0 : Int32)), .val (.ref (A 0)), .val (.int (0 : Int32)), .val (.ref (B 0)), .unset, .unset] [])) (fun _ k => XS.astore X3.here hx rfl (hb hby at_22) rfl rfl (l' := #[.val (.int x0), .val (.int (0 : Int32)), .val (.ref (A 0)), .val (.int (0 : Int32)), .val (.ref (B 0)), .unset, .unset]) rfl k) ?_
    refine Go.st (T' := T3) (g' := (mkF m 26 #[.val (.int x0), .val (.int (0 : Int32)), .val (.ref (A 0)), .val (.int (0 : Int32)), .val (.ref (B 0)), .unset, .unset] [(.ref (B 0))])) (fun _ k => XS.aload X3.here hx rfl (hb hby at_24) rfl rfl k) ?_
    obtain ⟨T4, X4, e4, st4⟩ := getS2 X3 hx hZ hown (host := "") (Or.inl (w24 hw)) Via.refl E3 (ES.1.ext O0.2) (g := (mkF m 26 #[.val (.int x0), .val (.int (0 : Int32)), .val (.ref (A 0)), .val (.int (0 : Int32)), .val (.ref (B 0)), .unset, .unset] [(.ref (B 0))])) rfl (hb hby at_26)
    refine Go.st (T' := T4) (g' := (mkF m 29 #[.val (.int x0), .val (.int (0 : Int32)), .val (.ref (A 0)), .val (.int (0 : Int32)), .val (.ref (B 0)), .unset, .unset] [(.ref (B 5)), (.ref (B 0))])) (fun _ k => st4 _ k) ?_
    refine Go.st (T' := T4) (g' := (mkF m 32 #[.val (.int x0), .val (.int (0 : Int32)), .val (.ref (A 0)), .val (.int (0 : Int32)), .val (.ref (B 0)), .unset, .unset] [])) (fun _ k => Jvm.RoadKit.acmp (g := (mkF m 29 #[.val (.int x0), .val (.int (0 : Int32)), .val (.ref (A 0)), .val (.int (0 : Int32)), .val (.ref (B 0)), .unset, .unset] [(.ref (B 5)), (.ref (B 0))])) X4 hx rfl rfl rfl (pc0 := 29) (pc' := 32) (same := false) rfl (hb hby at_29) rfl (decide_eq_false fun q => absurd (Value.ref.inj q) (Fld.ne OR.1 OR.2.2.2.2.2.1 (by simp))) (by decide) (by decide) k) ?_
    refine Go.st (T' := T4) (g' := (mkF m 34 #[.val (.int x0), .val (.int (0 : Int32)), .val (.ref (A 0)), .val (.int (0 : Int32)), .val (.ref (B 0)), .unset, .unset] [(.ref (B 0))])) (fun _ k => XS.aload X4.here hx rfl (hb hby at_32) rfl rfl k) ?_
    obtain ⟨T5, X5, e5, st5⟩ := getS2 X4 hx hZ hown (host := "") (Or.inl (w26 hw)) Via.refl e4 (ES.2.1.ext O0.2) (g := (mkF m 34 #[.val (.int x0), .val (.int (0 : Int32)), .val (.ref (A 0)), .val (.int (0 : Int32)), .val (.ref (B 0)), .unset, .unset] [(.ref (B 0))])) rfl (hb hby at_34)
    refine Go.st (T' := T5) (g' := (mkF m 37 #[.val (.int x0), .val (.int (0 : Int32)), .val (.ref (A 0)), .val (.int (0 : Int32)), .val (.ref (B 0)), .unset, .unset] [(.ref (B 6)), (.ref (B 0))])) (fun _ k => st5 _ k) ?_
    refine Go.st (T' := T5) (g' := (mkF m 40 #[.val (.int x0), .val (.int (0 : Int32)), .val (.ref (A 0)), .val (.int (0 : Int32)), .val (.ref (B 0)), .unset, .unset] [])) (fun _ k => Jvm.RoadKit.acmp (g := (mkF m 37 #[.val (.int x0), .val (.int (0 : Int32)), .val (.ref (A 0)), .val (.int (0 : Int32)), .val (.ref (B 0)), .unset, .unset] [(.ref (B 6)), (.ref (B 0))])) X5 hx rfl rfl rfl (pc0 := 37) (pc' := 40) (same := false) rfl (hb hby at_37) rfl (decide_eq_false fun q => absurd (Value.ref.inj q) (Fld.ne OR.1 OR.2.2.2.2.2.2.1 (by simp))) (by decide) (by decide) k) ?_
    refine Go.st (T' := T5) (g' := (mkF m 42 #[.val (.int x0), .val (.int (0 : Int32)), .val (.ref (A 0)), .val (.int (0 : Int32)), .val (.ref (B 0)), .unset, .unset] [(.ref (B 0))])) (fun _ k => XS.aload X5.here hx rfl (hb hby at_40) rfl rfl k) ?_
    obtain ⟨T6, X6, e6, st6⟩ := getS2 X5 hx hZ hown (host := "") (Or.inl (w28 hw)) Via.refl e5 (ES.2.2.1.ext O0.2) (g := (mkF m 42 #[.val (.int x0), .val (.int (0 : Int32)), .val (.ref (A 0)), .val (.int (0 : Int32)), .val (.ref (B 0)), .unset, .unset] [(.ref (B 0))])) rfl (hb hby at_42)
    refine Go.st (T' := T6) (g' := (mkF m 45 #[.val (.int x0), .val (.int (0 : Int32)), .val (.ref (A 0)), .val (.int (0 : Int32)), .val (.ref (B 0)), .unset, .unset] [(.ref (B 7)), (.ref (B 0))])) (fun _ k => st6 _ k) ?_
    refine Go.st (T' := T6) (g' := (mkF m 48 #[.val (.int x0), .val (.int (0 : Int32)), .val (.ref (A 0)), .val (.int (0 : Int32)), .val (.ref (B 0)), .unset, .unset] [])) (fun _ k => Jvm.RoadKit.acmp (g := (mkF m 45 #[.val (.int x0), .val (.int (0 : Int32)), .val (.ref (A 0)), .val (.int (0 : Int32)), .val (.ref (B 0)), .unset, .unset] [(.ref (B 7)), (.ref (B 0))])) X6 hx rfl rfl rfl (pc0 := 45) (pc' := 48) (same := false) rfl (hb hby at_45) rfl (decide_eq_false fun q => absurd (Value.ref.inj q) (Fld.ne OR.1 OR.2.2.2.2.2.2.2.1 (by simp))) (by decide) (by decide) k) ?_
    refine Go.st (T' := T6) (g' := (mkF m 50 #[.val (.int x0), .val (.int (0 : Int32)), .val (.ref (A 0)), .val (.int (0 : Int32)), .val (.ref (B 0)), .unset, .unset] [(.ref (B 0))])) (fun _ k => XS.aload X6.here hx rfl (hb hby at_48) rfl rfl k) ?_
    obtain ⟨T7, X7, e7, st7⟩ := getS2 X6 hx hZ hown (host := "") (Or.inl (w30 hw)) Via.refl e6 (ES.2.2.2.ext O0.2) (g := (mkF m 50 #[.val (.int x0), .val (.int (0 : Int32)), .val (.ref (A 0)), .val (.int (0 : Int32)), .val (.ref (B 0)), .unset, .unset] [(.ref (B 0))])) rfl (hb hby at_50)
    refine Go.st (T' := T7) (g' := (mkF m 53 #[.val (.int x0), .val (.int (0 : Int32)), .val (.ref (A 0)), .val (.int (0 : Int32)), .val (.ref (B 0)), .unset, .unset] [(.ref (B 8)), (.ref (B 0))])) (fun _ k => st7 _ k) ?_
    refine Go.st (T' := T7) (g' := (mkF m 60 #[.val (.int x0), .val (.int (0 : Int32)), .val (.ref (A 0)), .val (.int (0 : Int32)), .val (.ref (B 0)), .unset, .unset] [])) (fun _ k => Jvm.RoadKit.acmp (g := (mkF m 53 #[.val (.int x0), .val (.int (0 : Int32)), .val (.ref (A 0)), .val (.int (0 : Int32)), .val (.ref (B 0)), .unset, .unset] [(.ref (B 8)), (.ref (B 0))])) X7 hx rfl rfl rfl (pc0 := 53) (pc' := 60) (same := false) rfl (hb hby at_53) rfl (decide_eq_false fun q => absurd (Value.ref.inj q) (Fld.ne OR.1 OR.2.2.2.2.2.2.2.2 (by simp))) (by decide) (by decide) k) ?_
    refine Go.st (T' := T7) (g' := (mkF m 61 #[.val (.int x0), .val (.int (0 : Int32)), .val (.ref (A 0)), .val (.int (0 : Int32)), .val (.ref (B 0)), .unset, .unset] [(.int (0 : Int32))])) (fun _ k => XS.iconst X7.here hx rfl (hb hby at_60) k) ?_
    refine Go.st (T' := T7) (g' := (mkF m 63 #[.val (.int x0), .val (.int (0 : Int32)), .val (.ref (A 0)), .val (.int (0 : Int32)), .val (.ref (B 0)), .val (.int (0 : Int32)), .unset] [])) (fun _ k => XS.istore X7.here hx rfl (hb hby at_61) rfl (l' := #[.val (.int x0), .val (.int (0 : Int32)), .val (.ref (A 0)), .val (.int (0 : Int32)), .val (.ref (B 0)), .val (.int (0 : Int32)), .unset]) rfl k) ?_
    refine Go.st (T' := T7) (g' := (mkF m 64 #[.val (.int x0), .val (.int (0 : Int32)), .val (.ref (A 0)), .val (.int (0 : Int32)), .val (.ref (B 0)), .val (.int (0 : Int32)), .unset] [(.int (0 : Int32))])) (fun _ k => XS.iloadN X7.here hx rfl (hb hby at_63) rfl k) ?_
    refine Go.st (T' := T7) (g' := (mkF m 65 #[.val (.int x0), .val (.int (0 : Int32)), .val (.ref (A 0)), .val (.int (0 : Int32)), .val (.ref (B 0)), .val (.int (0 : Int32)), .unset] [(.int (5 : Int32)), (.int (0 : Int32))])) (fun _ k => XS.iconst X7.here hx rfl (hb hby at_64) k) ?_
    refine Go.st (T' := T7) (g' := (mkF m 72 #[.val (.int x0), .val (.int (0 : Int32)), .val (.ref (A 0)), .val (.int (0 : Int32)), .val (.ref (B 0)), .val (.int (0 : Int32)), .unset] [])) (fun _ k => XS.icmpYes X7.here hx rfl (pc0 := 65) (pc' := 72) rfl (hb hby at_65) rfl (tlt ((by decide) : (0 : Int32) < (5 : Int32))).1 (by decide) (by decide) k) ?_
    refine Go.st (T' := T7) (g' := (mkF m 73 #[.val (.int x0), .val (.int (0 : Int32)), .val (.ref (A 0)), .val (.int (0 : Int32)), .val (.ref (B 0)), .val (.int (0 : Int32)), .unset] [(.int (0 : Int32))])) (fun _ k => XS.iconst X7.here hx rfl (hb hby at_72) k) ?_
    refine Go.st (T' := T7) (g' := (mkF m 75 #[.val (.int x0), .val (.int (0 : Int32)), .val (.ref (A 0)), .val (.int (0 : Int32)), .val (.ref (B 0)), .val (.int (0 : Int32)), .val (.int (0 : Int32))] [])) (fun _ k => XS.istore X7.here hx rfl (hb hby at_73) rfl (l' := #[.val (.int x0), .val (.int (0 : Int32)), .val (.ref (A 0)), .val (.int (0 : Int32)), .val (.ref (B 0)), .val (.int (0 : Int32)), .val (.int (0 : Int32))]) rfl k) ?_
    refine Go.st (T' := T7) (g' := (mkF m 76 #[.val (.int x0), .val (.int (0 : Int32)), .val (.ref (A 0)), .val (.int (0 : Int32)), .val (.ref (B 0)), .val (.int (0 : Int32)), .val (.int (0 : Int32))] [(.int (0 : Int32))])) (fun _ k => XS.iloadN X7.here hx rfl (hb hby at_75) rfl k) ?_
    refine Go.st (T' := T7) (g' := (mkF m 78 #[.val (.int x0), .val (.int (0 : Int32)), .val (.ref (A 0)), .val (.int (0 : Int32)), .val (.ref (B 0)), .val (.int (0 : Int32)), .val (.int (0 : Int32))] [(.int (0 : Int32)), (.int (0 : Int32))])) (fun _ k => XS.iload X7.here hx rfl (hb hby at_76) rfl k) ?_
    refine Go.st (T' := T7) (g' := (mkF m 81 #[.val (.int x0), .val (.int (0 : Int32)), .val (.ref (A 0)), .val (.int (0 : Int32)), .val (.ref (B 0)), .val (.int (0 : Int32)), .val (.int (0 : Int32))] [])) (fun _ k => XS.icmpNo X7.here hx rfl (hb hby at_78) rfl (teq ((by decide) : (0 : Int32) = (0 : Int32))).2 k) ?_
    refine Go.st (T' := T7) (g' := (mkF m 82 #[.val (.int x0), .val (.int (0 : Int32)), .val (.ref (A 0)), .val (.int (0 : Int32)), .val (.ref (B 0)), .val (.int (0 : Int32)), .val (.int (0 : Int32))] [(.int (0 : Int32))])) (fun _ k => XS.iloadN X7.here hx rfl (hb hby at_81) rfl k) ?_
    refine Go.st (T' := T7) (g' := (mkF m 84 #[.val (.int x0), .val (.int (0 : Int32)), .val (.ref (A 0)), .val (.int (0 : Int32)), .val (.ref (B 0)), .val (.int (0 : Int32)), .val (.int (0 : Int32))] [(.int (0 : Int32)), (.int (0 : Int32))])) (fun _ k => XS.iload X7.here hx rfl (hb hby at_82) rfl k) ?_
    refine Go.st (T' := T7) (g' := (mkF m 87 #[.val (.int x0), .val (.int (0 : Int32)), .val (.ref (A 0)), .val (.int (0 : Int32)), .val (.ref (B 0)), .val (.int (0 : Int32)), .val (.int (0 : Int32))] [])) (fun _ k => XS.icmpNo X7.here hx rfl (hb hby at_84) rfl (teq ((by decide) : (0 : Int32) = (0 : Int32))).2 k) ?_
    refine Go.st (T' := T7) (g' := (mkF m 88 #[.val (.int x0), .val (.int (0 : Int32)), .val (.ref (A 0)), .val (.int (0 : Int32)), .val (.ref (B 0)), .val (.int (0 : Int32)), .val (.int (0 : Int32))] [(.int (1 : Int32))])) (fun _ k => XS.iconst X7.here hx rfl (hb hby at_87) k) ?_
    refine Go.st (T' := T7) (g' := (mkF m 92 #[.val (.int x0), .val (.int (0 : Int32)), .val (.ref (A 0)), .val (.int (0 : Int32)), .val (.ref (B 0)), .val (.int (0 : Int32)), .val (.int (0 : Int32))] [(.int (1 : Int32))])) (fun _ k => XS.goto X7.here hx rfl (pc0 := 88) (pc' := 92) rfl (hb hby at_88) (by decide) (by decide) k) ?_
    refine Go.retN X7 hx hlk hret rfl (by simp) (hb hby at_92) (by decide) (by decide) e7 ?_
    exact ⟨rfl, N3⟩
  · refine Go.st (T' := s₁) (g' := (mkF m 8 #[.val (.int x0), .val (.int (1 : Int32)), .unset, .unset, .unset, .unset, .unset] [])) (fun _ k => XS.istoreN X0.here hx rfl (hb hby at_7) rfl (l' := #[.val (.int x0), .val (.int (1 : Int32)), .unset, .unset, .unset, .unset, .unset]) rfl k) ?_
    refine Go.st (T' := s₁) (g' := (mkF m 9 #[.val (.int x0), .val (.int (1 : Int32)), .unset, .unset, .unset, .unset, .unset] [(.int (1 : Int32))])) (fun _ k => XS.iloadN X0.here hx rfl (hb hby at_8) rfl k) ?_
    refine Go.callSt (y := (⟨"com/example/patience/patience/congruence/FormatIsRootedPinLaw", "pick", "(I)Lcom/example/patience/patience/congruence/Format;"⟩ : MethodName)) X0 hx hZ hown e0 (w1 hw) (w2 hw) (w3 hw) (w4 hw) (by decide) (argsL := [(.int (1 : Int32))]) (rest := []) (W := 0) (rm_pick l Z a0 hw [] (1 : Int32) (A 1) A h0 n0 Z0 O0 SS (Or.inr (Or.inl ⟨rfl, rfl⟩))) rfl (lenOf pd2 rfl) rfl (by rw [hml]; rfl) rfl (by show 2 * 0 + _ ≤ _; exact Nat.le_of_eq rfl) (by decide) (by decide) (by decide) (by decide) (hb hby at_9) ?_
    intro v8 T8 h8 L8 X8 e8 q8
    obtain ⟨hv8, Nf8, hh8⟩ := q8
    subst hv8
    have E8 : T8.heap = h0 := e8.trans hh8
    have N8 := Fr.app N0 Nf8
    show Go p.tables e below _ T8 (mkF m 12 #[.val (.int x0), .val (.int (1 : Int32)), .unset, .unset, .unset, .unset, .unset] [(.ref (A 1))])
    refine Go.st (T' := T8) (g' := (mkF m 13 #[.val (.int x0), .val (.int (1 : Int32)), .val (.ref (A 1)), .unset, .unset, .unset, .unset] [])) (fun _ k => XS.astoreN X8.here hx rfl (hb hby at_12) rfl rfl (l' := #[.val (.int x0), .val (.int (1 : Int32)), .val (.ref (A 1)), .unset, .unset, .unset, .unset]) rfl k) ?_
    refine Go.st (T' := T8) (g' := (mkF m 14 #[.val (.int x0), .val (.int (1 : Int32)), .val (.ref (A 1)), .unset, .unset, .unset, .unset] [(.ref (A 1))])) (fun _ k => XS.aloadN X8.here hx rfl (hb hby at_13) rfl rfl k) ?_
    refine Go.callV (y := (⟨"com/example/patience/patience/congruence/Format", "isRooted", "()Z"⟩ : MethodName)) (z := (⟨"com/example/patience/patience/congruence/Format", "isRooted", "()Z"⟩ : MethodName)) (C := "com/example/patience/patience/congruence/Format") (a := (A 1)) X8 hx hZ hown E8 (w8 hw) (w9 hw) (w11 hw) (w10 hw) (w6 hw) (w12 hw) (notFace_of_selects (args := #[]) (mvT hZ (w11 hw))) (by decide) (EE.2.1.ext O0.2) (argsL := []) (rest := []) (W := 0) (rm_rootedN l Z a0 hw [] (A 1) h0 n0 Z0 (TM.2.1.ext O0.2)) rfl (lenOf pd3 rfl) rfl (by rw [hml]; rfl) rfl (by show 2 * 0 + _ ≤ _; exact Nat.le_of_eq rfl) (by decide) (by decide) (by decide) (by decide) (hb hby at_14) ?_
    intro v9 T9 h9 L9 X9 e9 q9
    obtain ⟨hv9, Nf9, hh9⟩ := q9
    subst hv9
    have E9 : T9.heap = h0 := e9.trans hh9
    have N9 := Fr.app N8 Nf9
    show Go p.tables e below _ T9 (mkF m 17 #[.val (.int x0), .val (.int (1 : Int32)), .val (.ref (A 1)), .unset, .unset, .unset, .unset] [(.int (0 : Int32))])
    refine Go.st (T' := T9) (g' := (mkF m 18 #[.val (.int x0), .val (.int (1 : Int32)), .val (.ref (A 1)), .val (.int (0 : Int32)), .unset, .unset, .unset] [])) (fun _ k => XS.istoreN X9.here hx rfl (hb hby at_17) rfl (l' := #[.val (.int x0), .val (.int (1 : Int32)), .val (.ref (A 1)), .val (.int (0 : Int32)), .unset, .unset, .unset]) rfl k) ?_
    refine Go.st (T' := T9) (g' := (mkF m 19 #[.val (.int x0), .val (.int (1 : Int32)), .val (.ref (A 1)), .val (.int (0 : Int32)), .unset, .unset, .unset] [(.ref (A 1))])) (fun _ k => XS.aloadN X9.here hx rfl (hb hby at_18) rfl rfl k) ?_
    refine Go.callV (y := (⟨"com/example/patience/patience/congruence/Format", "equivalence", "()Lcom/example/patience/patience/equivalence/Equivalence;"⟩ : MethodName)) (z := (⟨"com/example/patience/patience/congruence/Format", "equivalence", "()Lcom/example/patience/patience/equivalence/Equivalence;"⟩ : MethodName)) (C := "com/example/patience/patience/congruence/Format") (a := (A 1)) X9 hx hZ hown E9 (w15 hw) (w16 hw) (w18 hw) (w17 hw) (w6 hw) (w19 hw) (notFace_of_selects (args := #[]) (mvT hZ (w18 hw))) (by decide) (EE.2.1.ext O0.2) (argsL := []) (rest := []) (W := 0) (rm_equivalence l Z a0 hw [] (A 1) (B 1) h0 n0 Z0 (QE.2.1.ext O0.2)) rfl (lenOf pd4 rfl) rfl (by rw [hml]; rfl) rfl (by show 2 * 0 + _ ≤ _; exact Nat.le_of_eq rfl) (by decide) (by decide) (by decide) (by decide) (hb hby at_19) ?_
    intro v10 T10 h10 L10 X10 e10 q10
    obtain ⟨hv10, Nf10, hh10⟩ := q10
    subst hv10
    have E10 : T10.heap = h0 := e10.trans hh10
    have N10 := Fr.app N9 Nf10
    show Go p.tables e below _ T10 (mkF m 22 #[.val (.int x0), .val (.int (1 : Int32)), .val (.ref (A 1)), .val (.int (0 : Int32)), .unset, .unset, .unset] [(.ref (B 1))])
    refine Go.st (T' := T10) (g' := (mkF m 24 #[.val (.int x0), .val (.int (1 : Int32)), .val (.ref (A 1)), .val (.int (0 : Int32)), .val (.ref (B 1)), .unset, .unset] [])) (fun _ k => XS.astore X10.here hx rfl (hb hby at_22) rfl rfl (l' := #[.val (.int x0), .val (.int (1 : Int32)), .val (.ref (A 1)), .val (.int (0 : Int32)), .val (.ref (B 1)), .unset, .unset]) rfl k) ?_
    refine Go.st (T' := T10) (g' := (mkF m 26 #[.val (.int x0), .val (.int (1 : Int32)), .val (.ref (A 1)), .val (.int (0 : Int32)), .val (.ref (B 1)), .unset, .unset] [(.ref (B 1))])) (fun _ k => XS.aload X10.here hx rfl (hb hby at_24) rfl rfl k) ?_
    obtain ⟨T11, X11, e11, st11⟩ := getS2 X10 hx hZ hown (host := "") (Or.inl (w24 hw)) Via.refl E10 (ES.1.ext O0.2) (g := (mkF m 26 #[.val (.int x0), .val (.int (1 : Int32)), .val (.ref (A 1)), .val (.int (0 : Int32)), .val (.ref (B 1)), .unset, .unset] [(.ref (B 1))])) rfl (hb hby at_26)
    refine Go.st (T' := T11) (g' := (mkF m 29 #[.val (.int x0), .val (.int (1 : Int32)), .val (.ref (A 1)), .val (.int (0 : Int32)), .val (.ref (B 1)), .unset, .unset] [(.ref (B 5)), (.ref (B 1))])) (fun _ k => st11 _ k) ?_
    refine Go.st (T' := T11) (g' := (mkF m 32 #[.val (.int x0), .val (.int (1 : Int32)), .val (.ref (A 1)), .val (.int (0 : Int32)), .val (.ref (B 1)), .unset, .unset] [])) (fun _ k => Jvm.RoadKit.acmp (g := (mkF m 29 #[.val (.int x0), .val (.int (1 : Int32)), .val (.ref (A 1)), .val (.int (0 : Int32)), .val (.ref (B 1)), .unset, .unset] [(.ref (B 5)), (.ref (B 1))])) X11 hx rfl rfl rfl (pc0 := 29) (pc' := 32) (same := false) rfl (hb hby at_29) rfl (decide_eq_false fun q => absurd (Value.ref.inj q) (Fld.ne OR.2.1 OR.2.2.2.2.2.1 (by simp))) (by decide) (by decide) k) ?_
    refine Go.st (T' := T11) (g' := (mkF m 34 #[.val (.int x0), .val (.int (1 : Int32)), .val (.ref (A 1)), .val (.int (0 : Int32)), .val (.ref (B 1)), .unset, .unset] [(.ref (B 1))])) (fun _ k => XS.aload X11.here hx rfl (hb hby at_32) rfl rfl k) ?_
    obtain ⟨T12, X12, e12, st12⟩ := getS2 X11 hx hZ hown (host := "") (Or.inl (w26 hw)) Via.refl e11 (ES.2.1.ext O0.2) (g := (mkF m 34 #[.val (.int x0), .val (.int (1 : Int32)), .val (.ref (A 1)), .val (.int (0 : Int32)), .val (.ref (B 1)), .unset, .unset] [(.ref (B 1))])) rfl (hb hby at_34)
    refine Go.st (T' := T12) (g' := (mkF m 37 #[.val (.int x0), .val (.int (1 : Int32)), .val (.ref (A 1)), .val (.int (0 : Int32)), .val (.ref (B 1)), .unset, .unset] [(.ref (B 6)), (.ref (B 1))])) (fun _ k => st12 _ k) ?_
    refine Go.st (T' := T12) (g' := (mkF m 40 #[.val (.int x0), .val (.int (1 : Int32)), .val (.ref (A 1)), .val (.int (0 : Int32)), .val (.ref (B 1)), .unset, .unset] [])) (fun _ k => Jvm.RoadKit.acmp (g := (mkF m 37 #[.val (.int x0), .val (.int (1 : Int32)), .val (.ref (A 1)), .val (.int (0 : Int32)), .val (.ref (B 1)), .unset, .unset] [(.ref (B 6)), (.ref (B 1))])) X12 hx rfl rfl rfl (pc0 := 37) (pc' := 40) (same := false) rfl (hb hby at_37) rfl (decide_eq_false fun q => absurd (Value.ref.inj q) (Fld.ne OR.2.1 OR.2.2.2.2.2.2.1 (by simp))) (by decide) (by decide) k) ?_
    refine Go.st (T' := T12) (g' := (mkF m 42 #[.val (.int x0), .val (.int (1 : Int32)), .val (.ref (A 1)), .val (.int (0 : Int32)), .val (.ref (B 1)), .unset, .unset] [(.ref (B 1))])) (fun _ k => XS.aload X12.here hx rfl (hb hby at_40) rfl rfl k) ?_
    obtain ⟨T13, X13, e13, st13⟩ := getS2 X12 hx hZ hown (host := "") (Or.inl (w28 hw)) Via.refl e12 (ES.2.2.1.ext O0.2) (g := (mkF m 42 #[.val (.int x0), .val (.int (1 : Int32)), .val (.ref (A 1)), .val (.int (0 : Int32)), .val (.ref (B 1)), .unset, .unset] [(.ref (B 1))])) rfl (hb hby at_42)
    refine Go.st (T' := T13) (g' := (mkF m 45 #[.val (.int x0), .val (.int (1 : Int32)), .val (.ref (A 1)), .val (.int (0 : Int32)), .val (.ref (B 1)), .unset, .unset] [(.ref (B 7)), (.ref (B 1))])) (fun _ k => st13 _ k) ?_
    refine Go.st (T' := T13) (g' := (mkF m 48 #[.val (.int x0), .val (.int (1 : Int32)), .val (.ref (A 1)), .val (.int (0 : Int32)), .val (.ref (B 1)), .unset, .unset] [])) (fun _ k => Jvm.RoadKit.acmp (g := (mkF m 45 #[.val (.int x0), .val (.int (1 : Int32)), .val (.ref (A 1)), .val (.int (0 : Int32)), .val (.ref (B 1)), .unset, .unset] [(.ref (B 7)), (.ref (B 1))])) X13 hx rfl rfl rfl (pc0 := 45) (pc' := 48) (same := false) rfl (hb hby at_45) rfl (decide_eq_false fun q => absurd (Value.ref.inj q) (Fld.ne OR.2.1 OR.2.2.2.2.2.2.2.1 (by simp))) (by decide) (by decide) k) ?_
    refine Go.st (T' := T13) (g' := (mkF m 50 #[.val (.int x0), .val (.int (1 : Int32)), .val (.ref (A 1)), .val (.int (0 : Int32)), .val (.ref (B 1)), .unset, .unset] [(.ref (B 1))])) (fun _ k => XS.aload X13.here hx rfl (hb hby at_48) rfl rfl k) ?_
    obtain ⟨T14, X14, e14, st14⟩ := getS2 X13 hx hZ hown (host := "") (Or.inl (w30 hw)) Via.refl e13 (ES.2.2.2.ext O0.2) (g := (mkF m 50 #[.val (.int x0), .val (.int (1 : Int32)), .val (.ref (A 1)), .val (.int (0 : Int32)), .val (.ref (B 1)), .unset, .unset] [(.ref (B 1))])) rfl (hb hby at_50)
    refine Go.st (T' := T14) (g' := (mkF m 53 #[.val (.int x0), .val (.int (1 : Int32)), .val (.ref (A 1)), .val (.int (0 : Int32)), .val (.ref (B 1)), .unset, .unset] [(.ref (B 8)), (.ref (B 1))])) (fun _ k => st14 _ k) ?_
    refine Go.st (T' := T14) (g' := (mkF m 60 #[.val (.int x0), .val (.int (1 : Int32)), .val (.ref (A 1)), .val (.int (0 : Int32)), .val (.ref (B 1)), .unset, .unset] [])) (fun _ k => Jvm.RoadKit.acmp (g := (mkF m 53 #[.val (.int x0), .val (.int (1 : Int32)), .val (.ref (A 1)), .val (.int (0 : Int32)), .val (.ref (B 1)), .unset, .unset] [(.ref (B 8)), (.ref (B 1))])) X14 hx rfl rfl rfl (pc0 := 53) (pc' := 60) (same := false) rfl (hb hby at_53) rfl (decide_eq_false fun q => absurd (Value.ref.inj q) (Fld.ne OR.2.1 OR.2.2.2.2.2.2.2.2 (by simp))) (by decide) (by decide) k) ?_
    refine Go.st (T' := T14) (g' := (mkF m 61 #[.val (.int x0), .val (.int (1 : Int32)), .val (.ref (A 1)), .val (.int (0 : Int32)), .val (.ref (B 1)), .unset, .unset] [(.int (0 : Int32))])) (fun _ k => XS.iconst X14.here hx rfl (hb hby at_60) k) ?_
    refine Go.st (T' := T14) (g' := (mkF m 63 #[.val (.int x0), .val (.int (1 : Int32)), .val (.ref (A 1)), .val (.int (0 : Int32)), .val (.ref (B 1)), .val (.int (0 : Int32)), .unset] [])) (fun _ k => XS.istore X14.here hx rfl (hb hby at_61) rfl (l' := #[.val (.int x0), .val (.int (1 : Int32)), .val (.ref (A 1)), .val (.int (0 : Int32)), .val (.ref (B 1)), .val (.int (0 : Int32)), .unset]) rfl k) ?_
    refine Go.st (T' := T14) (g' := (mkF m 64 #[.val (.int x0), .val (.int (1 : Int32)), .val (.ref (A 1)), .val (.int (0 : Int32)), .val (.ref (B 1)), .val (.int (0 : Int32)), .unset] [(.int (1 : Int32))])) (fun _ k => XS.iloadN X14.here hx rfl (hb hby at_63) rfl k) ?_
    refine Go.st (T' := T14) (g' := (mkF m 65 #[.val (.int x0), .val (.int (1 : Int32)), .val (.ref (A 1)), .val (.int (0 : Int32)), .val (.ref (B 1)), .val (.int (0 : Int32)), .unset] [(.int (5 : Int32)), (.int (1 : Int32))])) (fun _ k => XS.iconst X14.here hx rfl (hb hby at_64) k) ?_
    refine Go.st (T' := T14) (g' := (mkF m 72 #[.val (.int x0), .val (.int (1 : Int32)), .val (.ref (A 1)), .val (.int (0 : Int32)), .val (.ref (B 1)), .val (.int (0 : Int32)), .unset] [])) (fun _ k => XS.icmpYes X14.here hx rfl (pc0 := 65) (pc' := 72) rfl (hb hby at_65) rfl (tlt ((by decide) : (1 : Int32) < (5 : Int32))).1 (by decide) (by decide) k) ?_
    refine Go.st (T' := T14) (g' := (mkF m 73 #[.val (.int x0), .val (.int (1 : Int32)), .val (.ref (A 1)), .val (.int (0 : Int32)), .val (.ref (B 1)), .val (.int (0 : Int32)), .unset] [(.int (0 : Int32))])) (fun _ k => XS.iconst X14.here hx rfl (hb hby at_72) k) ?_
    refine Go.st (T' := T14) (g' := (mkF m 75 #[.val (.int x0), .val (.int (1 : Int32)), .val (.ref (A 1)), .val (.int (0 : Int32)), .val (.ref (B 1)), .val (.int (0 : Int32)), .val (.int (0 : Int32))] [])) (fun _ k => XS.istore X14.here hx rfl (hb hby at_73) rfl (l' := #[.val (.int x0), .val (.int (1 : Int32)), .val (.ref (A 1)), .val (.int (0 : Int32)), .val (.ref (B 1)), .val (.int (0 : Int32)), .val (.int (0 : Int32))]) rfl k) ?_
    refine Go.st (T' := T14) (g' := (mkF m 76 #[.val (.int x0), .val (.int (1 : Int32)), .val (.ref (A 1)), .val (.int (0 : Int32)), .val (.ref (B 1)), .val (.int (0 : Int32)), .val (.int (0 : Int32))] [(.int (0 : Int32))])) (fun _ k => XS.iloadN X14.here hx rfl (hb hby at_75) rfl k) ?_
    refine Go.st (T' := T14) (g' := (mkF m 78 #[.val (.int x0), .val (.int (1 : Int32)), .val (.ref (A 1)), .val (.int (0 : Int32)), .val (.ref (B 1)), .val (.int (0 : Int32)), .val (.int (0 : Int32))] [(.int (0 : Int32)), (.int (0 : Int32))])) (fun _ k => XS.iload X14.here hx rfl (hb hby at_76) rfl k) ?_
    refine Go.st (T' := T14) (g' := (mkF m 81 #[.val (.int x0), .val (.int (1 : Int32)), .val (.ref (A 1)), .val (.int (0 : Int32)), .val (.ref (B 1)), .val (.int (0 : Int32)), .val (.int (0 : Int32))] [])) (fun _ k => XS.icmpNo X14.here hx rfl (hb hby at_78) rfl (teq ((by decide) : (0 : Int32) = (0 : Int32))).2 k) ?_
    refine Go.st (T' := T14) (g' := (mkF m 82 #[.val (.int x0), .val (.int (1 : Int32)), .val (.ref (A 1)), .val (.int (0 : Int32)), .val (.ref (B 1)), .val (.int (0 : Int32)), .val (.int (0 : Int32))] [(.int (0 : Int32))])) (fun _ k => XS.iloadN X14.here hx rfl (hb hby at_81) rfl k) ?_
    refine Go.st (T' := T14) (g' := (mkF m 84 #[.val (.int x0), .val (.int (1 : Int32)), .val (.ref (A 1)), .val (.int (0 : Int32)), .val (.ref (B 1)), .val (.int (0 : Int32)), .val (.int (0 : Int32))] [(.int (0 : Int32)), (.int (0 : Int32))])) (fun _ k => XS.iload X14.here hx rfl (hb hby at_82) rfl k) ?_
    refine Go.st (T' := T14) (g' := (mkF m 87 #[.val (.int x0), .val (.int (1 : Int32)), .val (.ref (A 1)), .val (.int (0 : Int32)), .val (.ref (B 1)), .val (.int (0 : Int32)), .val (.int (0 : Int32))] [])) (fun _ k => XS.icmpNo X14.here hx rfl (hb hby at_84) rfl (teq ((by decide) : (0 : Int32) = (0 : Int32))).2 k) ?_
    refine Go.st (T' := T14) (g' := (mkF m 88 #[.val (.int x0), .val (.int (1 : Int32)), .val (.ref (A 1)), .val (.int (0 : Int32)), .val (.ref (B 1)), .val (.int (0 : Int32)), .val (.int (0 : Int32))] [(.int (1 : Int32))])) (fun _ k => XS.iconst X14.here hx rfl (hb hby at_87) k) ?_
    refine Go.st (T' := T14) (g' := (mkF m 92 #[.val (.int x0), .val (.int (1 : Int32)), .val (.ref (A 1)), .val (.int (0 : Int32)), .val (.ref (B 1)), .val (.int (0 : Int32)), .val (.int (0 : Int32))] [(.int (1 : Int32))])) (fun _ k => XS.goto X14.here hx rfl (pc0 := 88) (pc' := 92) rfl (hb hby at_88) (by decide) (by decide) k) ?_
    refine Go.retN X14 hx hlk hret rfl (by simp) (hb hby at_92) (by decide) (by decide) e14 ?_
    exact ⟨rfl, N10⟩
  · refine Go.st (T' := s₁) (g' := (mkF m 8 #[.val (.int x0), .val (.int (2 : Int32)), .unset, .unset, .unset, .unset, .unset] [])) (fun _ k => XS.istoreN X0.here hx rfl (hb hby at_7) rfl (l' := #[.val (.int x0), .val (.int (2 : Int32)), .unset, .unset, .unset, .unset, .unset]) rfl k) ?_
    refine Go.st (T' := s₁) (g' := (mkF m 9 #[.val (.int x0), .val (.int (2 : Int32)), .unset, .unset, .unset, .unset, .unset] [(.int (2 : Int32))])) (fun _ k => XS.iloadN X0.here hx rfl (hb hby at_8) rfl k) ?_
    refine Go.callSt (y := (⟨"com/example/patience/patience/congruence/FormatIsRootedPinLaw", "pick", "(I)Lcom/example/patience/patience/congruence/Format;"⟩ : MethodName)) X0 hx hZ hown e0 (w1 hw) (w2 hw) (w3 hw) (w4 hw) (by decide) (argsL := [(.int (2 : Int32))]) (rest := []) (W := 0) (rm_pick l Z a0 hw [] (2 : Int32) (A 2) A h0 n0 Z0 O0 SS (Or.inr (Or.inr (Or.inl ⟨rfl, rfl⟩)))) rfl (lenOf pd2 rfl) rfl (by rw [hml]; rfl) rfl (by show 2 * 0 + _ ≤ _; exact Nat.le_of_eq rfl) (by decide) (by decide) (by decide) (by decide) (hb hby at_9) ?_
    intro v15 T15 h15 L15 X15 e15 q15
    obtain ⟨hv15, Nf15, hh15⟩ := q15
    subst hv15
    have E15 : T15.heap = h0 := e15.trans hh15
    have N15 := Fr.app N0 Nf15
    show Go p.tables e below _ T15 (mkF m 12 #[.val (.int x0), .val (.int (2 : Int32)), .unset, .unset, .unset, .unset, .unset] [(.ref (A 2))])
    refine Go.st (T' := T15) (g' := (mkF m 13 #[.val (.int x0), .val (.int (2 : Int32)), .val (.ref (A 2)), .unset, .unset, .unset, .unset] [])) (fun _ k => XS.astoreN X15.here hx rfl (hb hby at_12) rfl rfl (l' := #[.val (.int x0), .val (.int (2 : Int32)), .val (.ref (A 2)), .unset, .unset, .unset, .unset]) rfl k) ?_
    refine Go.st (T' := T15) (g' := (mkF m 14 #[.val (.int x0), .val (.int (2 : Int32)), .val (.ref (A 2)), .unset, .unset, .unset, .unset] [(.ref (A 2))])) (fun _ k => XS.aloadN X15.here hx rfl (hb hby at_13) rfl rfl k) ?_
    refine Go.callV (y := (⟨"com/example/patience/patience/congruence/Format", "isRooted", "()Z"⟩ : MethodName)) (z := (⟨"com/example/patience/patience/congruence/Format", "isRooted", "()Z"⟩ : MethodName)) (C := "com/example/patience/patience/congruence/Format") (a := (A 2)) X15 hx hZ hown E15 (w8 hw) (w9 hw) (w11 hw) (w10 hw) (w6 hw) (w12 hw) (notFace_of_selects (args := #[]) (mvT hZ (w11 hw))) (by decide) (EE.2.2.1.ext O0.2) (argsL := []) (rest := []) (W := 0) (rm_rootedN l Z a0 hw [] (A 2) h0 n0 Z0 (TM.2.2.1.ext O0.2)) rfl (lenOf pd3 rfl) rfl (by rw [hml]; rfl) rfl (by show 2 * 0 + _ ≤ _; exact Nat.le_of_eq rfl) (by decide) (by decide) (by decide) (by decide) (hb hby at_14) ?_
    intro v16 T16 h16 L16 X16 e16 q16
    obtain ⟨hv16, Nf16, hh16⟩ := q16
    subst hv16
    have E16 : T16.heap = h0 := e16.trans hh16
    have N16 := Fr.app N15 Nf16
    show Go p.tables e below _ T16 (mkF m 17 #[.val (.int x0), .val (.int (2 : Int32)), .val (.ref (A 2)), .unset, .unset, .unset, .unset] [(.int (0 : Int32))])
    refine Go.st (T' := T16) (g' := (mkF m 18 #[.val (.int x0), .val (.int (2 : Int32)), .val (.ref (A 2)), .val (.int (0 : Int32)), .unset, .unset, .unset] [])) (fun _ k => XS.istoreN X16.here hx rfl (hb hby at_17) rfl (l' := #[.val (.int x0), .val (.int (2 : Int32)), .val (.ref (A 2)), .val (.int (0 : Int32)), .unset, .unset, .unset]) rfl k) ?_
    refine Go.st (T' := T16) (g' := (mkF m 19 #[.val (.int x0), .val (.int (2 : Int32)), .val (.ref (A 2)), .val (.int (0 : Int32)), .unset, .unset, .unset] [(.ref (A 2))])) (fun _ k => XS.aloadN X16.here hx rfl (hb hby at_18) rfl rfl k) ?_
    refine Go.callV (y := (⟨"com/example/patience/patience/congruence/Format", "equivalence", "()Lcom/example/patience/patience/equivalence/Equivalence;"⟩ : MethodName)) (z := (⟨"com/example/patience/patience/congruence/Format", "equivalence", "()Lcom/example/patience/patience/equivalence/Equivalence;"⟩ : MethodName)) (C := "com/example/patience/patience/congruence/Format") (a := (A 2)) X16 hx hZ hown E16 (w15 hw) (w16 hw) (w18 hw) (w17 hw) (w6 hw) (w19 hw) (notFace_of_selects (args := #[]) (mvT hZ (w18 hw))) (by decide) (EE.2.2.1.ext O0.2) (argsL := []) (rest := []) (W := 0) (rm_equivalence l Z a0 hw [] (A 2) (B 2) h0 n0 Z0 (QE.2.2.1.ext O0.2)) rfl (lenOf pd4 rfl) rfl (by rw [hml]; rfl) rfl (by show 2 * 0 + _ ≤ _; exact Nat.le_of_eq rfl) (by decide) (by decide) (by decide) (by decide) (hb hby at_19) ?_
    intro v17 T17 h17 L17 X17 e17 q17
    obtain ⟨hv17, Nf17, hh17⟩ := q17
    subst hv17
    have E17 : T17.heap = h0 := e17.trans hh17
    have N17 := Fr.app N16 Nf17
    show Go p.tables e below _ T17 (mkF m 22 #[.val (.int x0), .val (.int (2 : Int32)), .val (.ref (A 2)), .val (.int (0 : Int32)), .unset, .unset, .unset] [(.ref (B 2))])
    refine Go.st (T' := T17) (g' := (mkF m 24 #[.val (.int x0), .val (.int (2 : Int32)), .val (.ref (A 2)), .val (.int (0 : Int32)), .val (.ref (B 2)), .unset, .unset] [])) (fun _ k => XS.astore X17.here hx rfl (hb hby at_22) rfl rfl (l' := #[.val (.int x0), .val (.int (2 : Int32)), .val (.ref (A 2)), .val (.int (0 : Int32)), .val (.ref (B 2)), .unset, .unset]) rfl k) ?_
    refine Go.st (T' := T17) (g' := (mkF m 26 #[.val (.int x0), .val (.int (2 : Int32)), .val (.ref (A 2)), .val (.int (0 : Int32)), .val (.ref (B 2)), .unset, .unset] [(.ref (B 2))])) (fun _ k => XS.aload X17.here hx rfl (hb hby at_24) rfl rfl k) ?_
    obtain ⟨T18, X18, e18, st18⟩ := getS2 X17 hx hZ hown (host := "") (Or.inl (w24 hw)) Via.refl E17 (ES.1.ext O0.2) (g := (mkF m 26 #[.val (.int x0), .val (.int (2 : Int32)), .val (.ref (A 2)), .val (.int (0 : Int32)), .val (.ref (B 2)), .unset, .unset] [(.ref (B 2))])) rfl (hb hby at_26)
    refine Go.st (T' := T18) (g' := (mkF m 29 #[.val (.int x0), .val (.int (2 : Int32)), .val (.ref (A 2)), .val (.int (0 : Int32)), .val (.ref (B 2)), .unset, .unset] [(.ref (B 5)), (.ref (B 2))])) (fun _ k => st18 _ k) ?_
    refine Go.st (T' := T18) (g' := (mkF m 32 #[.val (.int x0), .val (.int (2 : Int32)), .val (.ref (A 2)), .val (.int (0 : Int32)), .val (.ref (B 2)), .unset, .unset] [])) (fun _ k => Jvm.RoadKit.acmp (g := (mkF m 29 #[.val (.int x0), .val (.int (2 : Int32)), .val (.ref (A 2)), .val (.int (0 : Int32)), .val (.ref (B 2)), .unset, .unset] [(.ref (B 5)), (.ref (B 2))])) X18 hx rfl rfl rfl (pc0 := 29) (pc' := 32) (same := false) rfl (hb hby at_29) rfl (decide_eq_false fun q => absurd (Value.ref.inj q) (Fld.ne OR.2.2.1 OR.2.2.2.2.2.1 (by simp))) (by decide) (by decide) k) ?_
    refine Go.st (T' := T18) (g' := (mkF m 34 #[.val (.int x0), .val (.int (2 : Int32)), .val (.ref (A 2)), .val (.int (0 : Int32)), .val (.ref (B 2)), .unset, .unset] [(.ref (B 2))])) (fun _ k => XS.aload X18.here hx rfl (hb hby at_32) rfl rfl k) ?_
    obtain ⟨T19, X19, e19, st19⟩ := getS2 X18 hx hZ hown (host := "") (Or.inl (w26 hw)) Via.refl e18 (ES.2.1.ext O0.2) (g := (mkF m 34 #[.val (.int x0), .val (.int (2 : Int32)), .val (.ref (A 2)), .val (.int (0 : Int32)), .val (.ref (B 2)), .unset, .unset] [(.ref (B 2))])) rfl (hb hby at_34)
    refine Go.st (T' := T19) (g' := (mkF m 37 #[.val (.int x0), .val (.int (2 : Int32)), .val (.ref (A 2)), .val (.int (0 : Int32)), .val (.ref (B 2)), .unset, .unset] [(.ref (B 6)), (.ref (B 2))])) (fun _ k => st19 _ k) ?_
    refine Go.st (T' := T19) (g' := (mkF m 40 #[.val (.int x0), .val (.int (2 : Int32)), .val (.ref (A 2)), .val (.int (0 : Int32)), .val (.ref (B 2)), .unset, .unset] [])) (fun _ k => Jvm.RoadKit.acmp (g := (mkF m 37 #[.val (.int x0), .val (.int (2 : Int32)), .val (.ref (A 2)), .val (.int (0 : Int32)), .val (.ref (B 2)), .unset, .unset] [(.ref (B 6)), (.ref (B 2))])) X19 hx rfl rfl rfl (pc0 := 37) (pc' := 40) (same := false) rfl (hb hby at_37) rfl (decide_eq_false fun q => absurd (Value.ref.inj q) (Fld.ne OR.2.2.1 OR.2.2.2.2.2.2.1 (by simp))) (by decide) (by decide) k) ?_
    refine Go.st (T' := T19) (g' := (mkF m 42 #[.val (.int x0), .val (.int (2 : Int32)), .val (.ref (A 2)), .val (.int (0 : Int32)), .val (.ref (B 2)), .unset, .unset] [(.ref (B 2))])) (fun _ k => XS.aload X19.here hx rfl (hb hby at_40) rfl rfl k) ?_
    obtain ⟨T20, X20, e20, st20⟩ := getS2 X19 hx hZ hown (host := "") (Or.inl (w28 hw)) Via.refl e19 (ES.2.2.1.ext O0.2) (g := (mkF m 42 #[.val (.int x0), .val (.int (2 : Int32)), .val (.ref (A 2)), .val (.int (0 : Int32)), .val (.ref (B 2)), .unset, .unset] [(.ref (B 2))])) rfl (hb hby at_42)
    refine Go.st (T' := T20) (g' := (mkF m 45 #[.val (.int x0), .val (.int (2 : Int32)), .val (.ref (A 2)), .val (.int (0 : Int32)), .val (.ref (B 2)), .unset, .unset] [(.ref (B 7)), (.ref (B 2))])) (fun _ k => st20 _ k) ?_
    refine Go.st (T' := T20) (g' := (mkF m 48 #[.val (.int x0), .val (.int (2 : Int32)), .val (.ref (A 2)), .val (.int (0 : Int32)), .val (.ref (B 2)), .unset, .unset] [])) (fun _ k => Jvm.RoadKit.acmp (g := (mkF m 45 #[.val (.int x0), .val (.int (2 : Int32)), .val (.ref (A 2)), .val (.int (0 : Int32)), .val (.ref (B 2)), .unset, .unset] [(.ref (B 7)), (.ref (B 2))])) X20 hx rfl rfl rfl (pc0 := 45) (pc' := 48) (same := false) rfl (hb hby at_45) rfl (decide_eq_false fun q => absurd (Value.ref.inj q) (Fld.ne OR.2.2.1 OR.2.2.2.2.2.2.2.1 (by simp))) (by decide) (by decide) k) ?_
    refine Go.st (T' := T20) (g' := (mkF m 50 #[.val (.int x0), .val (.int (2 : Int32)), .val (.ref (A 2)), .val (.int (0 : Int32)), .val (.ref (B 2)), .unset, .unset] [(.ref (B 2))])) (fun _ k => XS.aload X20.here hx rfl (hb hby at_48) rfl rfl k) ?_
    obtain ⟨T21, X21, e21, st21⟩ := getS2 X20 hx hZ hown (host := "") (Or.inl (w30 hw)) Via.refl e20 (ES.2.2.2.ext O0.2) (g := (mkF m 50 #[.val (.int x0), .val (.int (2 : Int32)), .val (.ref (A 2)), .val (.int (0 : Int32)), .val (.ref (B 2)), .unset, .unset] [(.ref (B 2))])) rfl (hb hby at_50)
    refine Go.st (T' := T21) (g' := (mkF m 53 #[.val (.int x0), .val (.int (2 : Int32)), .val (.ref (A 2)), .val (.int (0 : Int32)), .val (.ref (B 2)), .unset, .unset] [(.ref (B 8)), (.ref (B 2))])) (fun _ k => st21 _ k) ?_
    refine Go.st (T' := T21) (g' := (mkF m 60 #[.val (.int x0), .val (.int (2 : Int32)), .val (.ref (A 2)), .val (.int (0 : Int32)), .val (.ref (B 2)), .unset, .unset] [])) (fun _ k => Jvm.RoadKit.acmp (g := (mkF m 53 #[.val (.int x0), .val (.int (2 : Int32)), .val (.ref (A 2)), .val (.int (0 : Int32)), .val (.ref (B 2)), .unset, .unset] [(.ref (B 8)), (.ref (B 2))])) X21 hx rfl rfl rfl (pc0 := 53) (pc' := 60) (same := false) rfl (hb hby at_53) rfl (decide_eq_false fun q => absurd (Value.ref.inj q) (Fld.ne OR.2.2.1 OR.2.2.2.2.2.2.2.2 (by simp))) (by decide) (by decide) k) ?_
    refine Go.st (T' := T21) (g' := (mkF m 61 #[.val (.int x0), .val (.int (2 : Int32)), .val (.ref (A 2)), .val (.int (0 : Int32)), .val (.ref (B 2)), .unset, .unset] [(.int (0 : Int32))])) (fun _ k => XS.iconst X21.here hx rfl (hb hby at_60) k) ?_
    refine Go.st (T' := T21) (g' := (mkF m 63 #[.val (.int x0), .val (.int (2 : Int32)), .val (.ref (A 2)), .val (.int (0 : Int32)), .val (.ref (B 2)), .val (.int (0 : Int32)), .unset] [])) (fun _ k => XS.istore X21.here hx rfl (hb hby at_61) rfl (l' := #[.val (.int x0), .val (.int (2 : Int32)), .val (.ref (A 2)), .val (.int (0 : Int32)), .val (.ref (B 2)), .val (.int (0 : Int32)), .unset]) rfl k) ?_
    refine Go.st (T' := T21) (g' := (mkF m 64 #[.val (.int x0), .val (.int (2 : Int32)), .val (.ref (A 2)), .val (.int (0 : Int32)), .val (.ref (B 2)), .val (.int (0 : Int32)), .unset] [(.int (2 : Int32))])) (fun _ k => XS.iloadN X21.here hx rfl (hb hby at_63) rfl k) ?_
    refine Go.st (T' := T21) (g' := (mkF m 65 #[.val (.int x0), .val (.int (2 : Int32)), .val (.ref (A 2)), .val (.int (0 : Int32)), .val (.ref (B 2)), .val (.int (0 : Int32)), .unset] [(.int (5 : Int32)), (.int (2 : Int32))])) (fun _ k => XS.iconst X21.here hx rfl (hb hby at_64) k) ?_
    refine Go.st (T' := T21) (g' := (mkF m 72 #[.val (.int x0), .val (.int (2 : Int32)), .val (.ref (A 2)), .val (.int (0 : Int32)), .val (.ref (B 2)), .val (.int (0 : Int32)), .unset] [])) (fun _ k => XS.icmpYes X21.here hx rfl (pc0 := 65) (pc' := 72) rfl (hb hby at_65) rfl (tlt ((by decide) : (2 : Int32) < (5 : Int32))).1 (by decide) (by decide) k) ?_
    refine Go.st (T' := T21) (g' := (mkF m 73 #[.val (.int x0), .val (.int (2 : Int32)), .val (.ref (A 2)), .val (.int (0 : Int32)), .val (.ref (B 2)), .val (.int (0 : Int32)), .unset] [(.int (0 : Int32))])) (fun _ k => XS.iconst X21.here hx rfl (hb hby at_72) k) ?_
    refine Go.st (T' := T21) (g' := (mkF m 75 #[.val (.int x0), .val (.int (2 : Int32)), .val (.ref (A 2)), .val (.int (0 : Int32)), .val (.ref (B 2)), .val (.int (0 : Int32)), .val (.int (0 : Int32))] [])) (fun _ k => XS.istore X21.here hx rfl (hb hby at_73) rfl (l' := #[.val (.int x0), .val (.int (2 : Int32)), .val (.ref (A 2)), .val (.int (0 : Int32)), .val (.ref (B 2)), .val (.int (0 : Int32)), .val (.int (0 : Int32))]) rfl k) ?_
    refine Go.st (T' := T21) (g' := (mkF m 76 #[.val (.int x0), .val (.int (2 : Int32)), .val (.ref (A 2)), .val (.int (0 : Int32)), .val (.ref (B 2)), .val (.int (0 : Int32)), .val (.int (0 : Int32))] [(.int (0 : Int32))])) (fun _ k => XS.iloadN X21.here hx rfl (hb hby at_75) rfl k) ?_
    refine Go.st (T' := T21) (g' := (mkF m 78 #[.val (.int x0), .val (.int (2 : Int32)), .val (.ref (A 2)), .val (.int (0 : Int32)), .val (.ref (B 2)), .val (.int (0 : Int32)), .val (.int (0 : Int32))] [(.int (0 : Int32)), (.int (0 : Int32))])) (fun _ k => XS.iload X21.here hx rfl (hb hby at_76) rfl k) ?_
    refine Go.st (T' := T21) (g' := (mkF m 81 #[.val (.int x0), .val (.int (2 : Int32)), .val (.ref (A 2)), .val (.int (0 : Int32)), .val (.ref (B 2)), .val (.int (0 : Int32)), .val (.int (0 : Int32))] [])) (fun _ k => XS.icmpNo X21.here hx rfl (hb hby at_78) rfl (teq ((by decide) : (0 : Int32) = (0 : Int32))).2 k) ?_
    refine Go.st (T' := T21) (g' := (mkF m 82 #[.val (.int x0), .val (.int (2 : Int32)), .val (.ref (A 2)), .val (.int (0 : Int32)), .val (.ref (B 2)), .val (.int (0 : Int32)), .val (.int (0 : Int32))] [(.int (0 : Int32))])) (fun _ k => XS.iloadN X21.here hx rfl (hb hby at_81) rfl k) ?_
    refine Go.st (T' := T21) (g' := (mkF m 84 #[.val (.int x0), .val (.int (2 : Int32)), .val (.ref (A 2)), .val (.int (0 : Int32)), .val (.ref (B 2)), .val (.int (0 : Int32)), .val (.int (0 : Int32))] [(.int (0 : Int32)), (.int (0 : Int32))])) (fun _ k => XS.iload X21.here hx rfl (hb hby at_82) rfl k) ?_
    refine Go.st (T' := T21) (g' := (mkF m 87 #[.val (.int x0), .val (.int (2 : Int32)), .val (.ref (A 2)), .val (.int (0 : Int32)), .val (.ref (B 2)), .val (.int (0 : Int32)), .val (.int (0 : Int32))] [])) (fun _ k => XS.icmpNo X21.here hx rfl (hb hby at_84) rfl (teq ((by decide) : (0 : Int32) = (0 : Int32))).2 k) ?_
    refine Go.st (T' := T21) (g' := (mkF m 88 #[.val (.int x0), .val (.int (2 : Int32)), .val (.ref (A 2)), .val (.int (0 : Int32)), .val (.ref (B 2)), .val (.int (0 : Int32)), .val (.int (0 : Int32))] [(.int (1 : Int32))])) (fun _ k => XS.iconst X21.here hx rfl (hb hby at_87) k) ?_
    refine Go.st (T' := T21) (g' := (mkF m 92 #[.val (.int x0), .val (.int (2 : Int32)), .val (.ref (A 2)), .val (.int (0 : Int32)), .val (.ref (B 2)), .val (.int (0 : Int32)), .val (.int (0 : Int32))] [(.int (1 : Int32))])) (fun _ k => XS.goto X21.here hx rfl (pc0 := 88) (pc' := 92) rfl (hb hby at_88) (by decide) (by decide) k) ?_
    refine Go.retN X21 hx hlk hret rfl (by simp) (hb hby at_92) (by decide) (by decide) e21 ?_
    exact ⟨rfl, N17⟩
  · refine Go.st (T' := s₁) (g' := (mkF m 8 #[.val (.int x0), .val (.int (3 : Int32)), .unset, .unset, .unset, .unset, .unset] [])) (fun _ k => XS.istoreN X0.here hx rfl (hb hby at_7) rfl (l' := #[.val (.int x0), .val (.int (3 : Int32)), .unset, .unset, .unset, .unset, .unset]) rfl k) ?_
    refine Go.st (T' := s₁) (g' := (mkF m 9 #[.val (.int x0), .val (.int (3 : Int32)), .unset, .unset, .unset, .unset, .unset] [(.int (3 : Int32))])) (fun _ k => XS.iloadN X0.here hx rfl (hb hby at_8) rfl k) ?_
    refine Go.callSt (y := (⟨"com/example/patience/patience/congruence/FormatIsRootedPinLaw", "pick", "(I)Lcom/example/patience/patience/congruence/Format;"⟩ : MethodName)) X0 hx hZ hown e0 (w1 hw) (w2 hw) (w3 hw) (w4 hw) (by decide) (argsL := [(.int (3 : Int32))]) (rest := []) (W := 0) (rm_pick l Z a0 hw [] (3 : Int32) (A 3) A h0 n0 Z0 O0 SS (Or.inr (Or.inr (Or.inr (Or.inl ⟨rfl, rfl⟩))))) rfl (lenOf pd2 rfl) rfl (by rw [hml]; rfl) rfl (by show 2 * 0 + _ ≤ _; exact Nat.le_of_eq rfl) (by decide) (by decide) (by decide) (by decide) (hb hby at_9) ?_
    intro v22 T22 h22 L22 X22 e22 q22
    obtain ⟨hv22, Nf22, hh22⟩ := q22
    subst hv22
    have E22 : T22.heap = h0 := e22.trans hh22
    have N22 := Fr.app N0 Nf22
    show Go p.tables e below _ T22 (mkF m 12 #[.val (.int x0), .val (.int (3 : Int32)), .unset, .unset, .unset, .unset, .unset] [(.ref (A 3))])
    refine Go.st (T' := T22) (g' := (mkF m 13 #[.val (.int x0), .val (.int (3 : Int32)), .val (.ref (A 3)), .unset, .unset, .unset, .unset] [])) (fun _ k => XS.astoreN X22.here hx rfl (hb hby at_12) rfl rfl (l' := #[.val (.int x0), .val (.int (3 : Int32)), .val (.ref (A 3)), .unset, .unset, .unset, .unset]) rfl k) ?_
    refine Go.st (T' := T22) (g' := (mkF m 14 #[.val (.int x0), .val (.int (3 : Int32)), .val (.ref (A 3)), .unset, .unset, .unset, .unset] [(.ref (A 3))])) (fun _ k => XS.aloadN X22.here hx rfl (hb hby at_13) rfl rfl k) ?_
    refine Go.callV (y := (⟨"com/example/patience/patience/congruence/Format", "isRooted", "()Z"⟩ : MethodName)) (z := (⟨"com/example/patience/patience/congruence/Format", "isRooted", "()Z"⟩ : MethodName)) (C := "com/example/patience/patience/congruence/Format") (a := (A 3)) X22 hx hZ hown E22 (w8 hw) (w9 hw) (w11 hw) (w10 hw) (w6 hw) (w12 hw) (notFace_of_selects (args := #[]) (mvT hZ (w11 hw))) (by decide) (EE.2.2.2.1.ext O0.2) (argsL := []) (rest := []) (W := 0) (rm_rootedN l Z a0 hw [] (A 3) h0 n0 Z0 (TM.2.2.2.1.ext O0.2)) rfl (lenOf pd3 rfl) rfl (by rw [hml]; rfl) rfl (by show 2 * 0 + _ ≤ _; exact Nat.le_of_eq rfl) (by decide) (by decide) (by decide) (by decide) (hb hby at_14) ?_
    intro v23 T23 h23 L23 X23 e23 q23
    obtain ⟨hv23, Nf23, hh23⟩ := q23
    subst hv23
    have E23 : T23.heap = h0 := e23.trans hh23
    have N23 := Fr.app N22 Nf23
    show Go p.tables e below _ T23 (mkF m 17 #[.val (.int x0), .val (.int (3 : Int32)), .val (.ref (A 3)), .unset, .unset, .unset, .unset] [(.int (0 : Int32))])
    refine Go.st (T' := T23) (g' := (mkF m 18 #[.val (.int x0), .val (.int (3 : Int32)), .val (.ref (A 3)), .val (.int (0 : Int32)), .unset, .unset, .unset] [])) (fun _ k => XS.istoreN X23.here hx rfl (hb hby at_17) rfl (l' := #[.val (.int x0), .val (.int (3 : Int32)), .val (.ref (A 3)), .val (.int (0 : Int32)), .unset, .unset, .unset]) rfl k) ?_
    refine Go.st (T' := T23) (g' := (mkF m 19 #[.val (.int x0), .val (.int (3 : Int32)), .val (.ref (A 3)), .val (.int (0 : Int32)), .unset, .unset, .unset] [(.ref (A 3))])) (fun _ k => XS.aloadN X23.here hx rfl (hb hby at_18) rfl rfl k) ?_
    refine Go.callV (y := (⟨"com/example/patience/patience/congruence/Format", "equivalence", "()Lcom/example/patience/patience/equivalence/Equivalence;"⟩ : MethodName)) (z := (⟨"com/example/patience/patience/congruence/Format", "equivalence", "()Lcom/example/patience/patience/equivalence/Equivalence;"⟩ : MethodName)) (C := "com/example/patience/patience/congruence/Format") (a := (A 3)) X23 hx hZ hown E23 (w15 hw) (w16 hw) (w18 hw) (w17 hw) (w6 hw) (w19 hw) (notFace_of_selects (args := #[]) (mvT hZ (w18 hw))) (by decide) (EE.2.2.2.1.ext O0.2) (argsL := []) (rest := []) (W := 0) (rm_equivalence l Z a0 hw [] (A 3) (B 3) h0 n0 Z0 (QE.2.2.2.1.ext O0.2)) rfl (lenOf pd4 rfl) rfl (by rw [hml]; rfl) rfl (by show 2 * 0 + _ ≤ _; exact Nat.le_of_eq rfl) (by decide) (by decide) (by decide) (by decide) (hb hby at_19) ?_
    intro v24 T24 h24 L24 X24 e24 q24
    obtain ⟨hv24, Nf24, hh24⟩ := q24
    subst hv24
    have E24 : T24.heap = h0 := e24.trans hh24
    have N24 := Fr.app N23 Nf24
    show Go p.tables e below _ T24 (mkF m 22 #[.val (.int x0), .val (.int (3 : Int32)), .val (.ref (A 3)), .val (.int (0 : Int32)), .unset, .unset, .unset] [(.ref (B 3))])
    refine Go.st (T' := T24) (g' := (mkF m 24 #[.val (.int x0), .val (.int (3 : Int32)), .val (.ref (A 3)), .val (.int (0 : Int32)), .val (.ref (B 3)), .unset, .unset] [])) (fun _ k => XS.astore X24.here hx rfl (hb hby at_22) rfl rfl (l' := #[.val (.int x0), .val (.int (3 : Int32)), .val (.ref (A 3)), .val (.int (0 : Int32)), .val (.ref (B 3)), .unset, .unset]) rfl k) ?_
    refine Go.st (T' := T24) (g' := (mkF m 26 #[.val (.int x0), .val (.int (3 : Int32)), .val (.ref (A 3)), .val (.int (0 : Int32)), .val (.ref (B 3)), .unset, .unset] [(.ref (B 3))])) (fun _ k => XS.aload X24.here hx rfl (hb hby at_24) rfl rfl k) ?_
    obtain ⟨T25, X25, e25, st25⟩ := getS2 X24 hx hZ hown (host := "") (Or.inl (w24 hw)) Via.refl E24 (ES.1.ext O0.2) (g := (mkF m 26 #[.val (.int x0), .val (.int (3 : Int32)), .val (.ref (A 3)), .val (.int (0 : Int32)), .val (.ref (B 3)), .unset, .unset] [(.ref (B 3))])) rfl (hb hby at_26)
    refine Go.st (T' := T25) (g' := (mkF m 29 #[.val (.int x0), .val (.int (3 : Int32)), .val (.ref (A 3)), .val (.int (0 : Int32)), .val (.ref (B 3)), .unset, .unset] [(.ref (B 5)), (.ref (B 3))])) (fun _ k => st25 _ k) ?_
    refine Go.st (T' := T25) (g' := (mkF m 32 #[.val (.int x0), .val (.int (3 : Int32)), .val (.ref (A 3)), .val (.int (0 : Int32)), .val (.ref (B 3)), .unset, .unset] [])) (fun _ k => Jvm.RoadKit.acmp (g := (mkF m 29 #[.val (.int x0), .val (.int (3 : Int32)), .val (.ref (A 3)), .val (.int (0 : Int32)), .val (.ref (B 3)), .unset, .unset] [(.ref (B 5)), (.ref (B 3))])) X25 hx rfl rfl rfl (pc0 := 29) (pc' := 32) (same := false) rfl (hb hby at_29) rfl (decide_eq_false fun q => absurd (Value.ref.inj q) (Fld.ne OR.2.2.2.1 OR.2.2.2.2.2.1 (by simp))) (by decide) (by decide) k) ?_
    refine Go.st (T' := T25) (g' := (mkF m 34 #[.val (.int x0), .val (.int (3 : Int32)), .val (.ref (A 3)), .val (.int (0 : Int32)), .val (.ref (B 3)), .unset, .unset] [(.ref (B 3))])) (fun _ k => XS.aload X25.here hx rfl (hb hby at_32) rfl rfl k) ?_
    obtain ⟨T26, X26, e26, st26⟩ := getS2 X25 hx hZ hown (host := "") (Or.inl (w26 hw)) Via.refl e25 (ES.2.1.ext O0.2) (g := (mkF m 34 #[.val (.int x0), .val (.int (3 : Int32)), .val (.ref (A 3)), .val (.int (0 : Int32)), .val (.ref (B 3)), .unset, .unset] [(.ref (B 3))])) rfl (hb hby at_34)
    refine Go.st (T' := T26) (g' := (mkF m 37 #[.val (.int x0), .val (.int (3 : Int32)), .val (.ref (A 3)), .val (.int (0 : Int32)), .val (.ref (B 3)), .unset, .unset] [(.ref (B 6)), (.ref (B 3))])) (fun _ k => st26 _ k) ?_
    refine Go.st (T' := T26) (g' := (mkF m 40 #[.val (.int x0), .val (.int (3 : Int32)), .val (.ref (A 3)), .val (.int (0 : Int32)), .val (.ref (B 3)), .unset, .unset] [])) (fun _ k => Jvm.RoadKit.acmp (g := (mkF m 37 #[.val (.int x0), .val (.int (3 : Int32)), .val (.ref (A 3)), .val (.int (0 : Int32)), .val (.ref (B 3)), .unset, .unset] [(.ref (B 6)), (.ref (B 3))])) X26 hx rfl rfl rfl (pc0 := 37) (pc' := 40) (same := false) rfl (hb hby at_37) rfl (decide_eq_false fun q => absurd (Value.ref.inj q) (Fld.ne OR.2.2.2.1 OR.2.2.2.2.2.2.1 (by simp))) (by decide) (by decide) k) ?_
    refine Go.st (T' := T26) (g' := (mkF m 42 #[.val (.int x0), .val (.int (3 : Int32)), .val (.ref (A 3)), .val (.int (0 : Int32)), .val (.ref (B 3)), .unset, .unset] [(.ref (B 3))])) (fun _ k => XS.aload X26.here hx rfl (hb hby at_40) rfl rfl k) ?_
    obtain ⟨T27, X27, e27, st27⟩ := getS2 X26 hx hZ hown (host := "") (Or.inl (w28 hw)) Via.refl e26 (ES.2.2.1.ext O0.2) (g := (mkF m 42 #[.val (.int x0), .val (.int (3 : Int32)), .val (.ref (A 3)), .val (.int (0 : Int32)), .val (.ref (B 3)), .unset, .unset] [(.ref (B 3))])) rfl (hb hby at_42)
    refine Go.st (T' := T27) (g' := (mkF m 45 #[.val (.int x0), .val (.int (3 : Int32)), .val (.ref (A 3)), .val (.int (0 : Int32)), .val (.ref (B 3)), .unset, .unset] [(.ref (B 7)), (.ref (B 3))])) (fun _ k => st27 _ k) ?_
    refine Go.st (T' := T27) (g' := (mkF m 48 #[.val (.int x0), .val (.int (3 : Int32)), .val (.ref (A 3)), .val (.int (0 : Int32)), .val (.ref (B 3)), .unset, .unset] [])) (fun _ k => Jvm.RoadKit.acmp (g := (mkF m 45 #[.val (.int x0), .val (.int (3 : Int32)), .val (.ref (A 3)), .val (.int (0 : Int32)), .val (.ref (B 3)), .unset, .unset] [(.ref (B 7)), (.ref (B 3))])) X27 hx rfl rfl rfl (pc0 := 45) (pc' := 48) (same := false) rfl (hb hby at_45) rfl (decide_eq_false fun q => absurd (Value.ref.inj q) (Fld.ne OR.2.2.2.1 OR.2.2.2.2.2.2.2.1 (by simp))) (by decide) (by decide) k) ?_
    refine Go.st (T' := T27) (g' := (mkF m 50 #[.val (.int x0), .val (.int (3 : Int32)), .val (.ref (A 3)), .val (.int (0 : Int32)), .val (.ref (B 3)), .unset, .unset] [(.ref (B 3))])) (fun _ k => XS.aload X27.here hx rfl (hb hby at_48) rfl rfl k) ?_
    obtain ⟨T28, X28, e28, st28⟩ := getS2 X27 hx hZ hown (host := "") (Or.inl (w30 hw)) Via.refl e27 (ES.2.2.2.ext O0.2) (g := (mkF m 50 #[.val (.int x0), .val (.int (3 : Int32)), .val (.ref (A 3)), .val (.int (0 : Int32)), .val (.ref (B 3)), .unset, .unset] [(.ref (B 3))])) rfl (hb hby at_50)
    refine Go.st (T' := T28) (g' := (mkF m 53 #[.val (.int x0), .val (.int (3 : Int32)), .val (.ref (A 3)), .val (.int (0 : Int32)), .val (.ref (B 3)), .unset, .unset] [(.ref (B 8)), (.ref (B 3))])) (fun _ k => st28 _ k) ?_
    refine Go.st (T' := T28) (g' := (mkF m 60 #[.val (.int x0), .val (.int (3 : Int32)), .val (.ref (A 3)), .val (.int (0 : Int32)), .val (.ref (B 3)), .unset, .unset] [])) (fun _ k => Jvm.RoadKit.acmp (g := (mkF m 53 #[.val (.int x0), .val (.int (3 : Int32)), .val (.ref (A 3)), .val (.int (0 : Int32)), .val (.ref (B 3)), .unset, .unset] [(.ref (B 8)), (.ref (B 3))])) X28 hx rfl rfl rfl (pc0 := 53) (pc' := 60) (same := false) rfl (hb hby at_53) rfl (decide_eq_false fun q => absurd (Value.ref.inj q) (Fld.ne OR.2.2.2.1 OR.2.2.2.2.2.2.2.2 (by simp))) (by decide) (by decide) k) ?_
    refine Go.st (T' := T28) (g' := (mkF m 61 #[.val (.int x0), .val (.int (3 : Int32)), .val (.ref (A 3)), .val (.int (0 : Int32)), .val (.ref (B 3)), .unset, .unset] [(.int (0 : Int32))])) (fun _ k => XS.iconst X28.here hx rfl (hb hby at_60) k) ?_
    refine Go.st (T' := T28) (g' := (mkF m 63 #[.val (.int x0), .val (.int (3 : Int32)), .val (.ref (A 3)), .val (.int (0 : Int32)), .val (.ref (B 3)), .val (.int (0 : Int32)), .unset] [])) (fun _ k => XS.istore X28.here hx rfl (hb hby at_61) rfl (l' := #[.val (.int x0), .val (.int (3 : Int32)), .val (.ref (A 3)), .val (.int (0 : Int32)), .val (.ref (B 3)), .val (.int (0 : Int32)), .unset]) rfl k) ?_
    refine Go.st (T' := T28) (g' := (mkF m 64 #[.val (.int x0), .val (.int (3 : Int32)), .val (.ref (A 3)), .val (.int (0 : Int32)), .val (.ref (B 3)), .val (.int (0 : Int32)), .unset] [(.int (3 : Int32))])) (fun _ k => XS.iloadN X28.here hx rfl (hb hby at_63) rfl k) ?_
    refine Go.st (T' := T28) (g' := (mkF m 65 #[.val (.int x0), .val (.int (3 : Int32)), .val (.ref (A 3)), .val (.int (0 : Int32)), .val (.ref (B 3)), .val (.int (0 : Int32)), .unset] [(.int (5 : Int32)), (.int (3 : Int32))])) (fun _ k => XS.iconst X28.here hx rfl (hb hby at_64) k) ?_
    refine Go.st (T' := T28) (g' := (mkF m 72 #[.val (.int x0), .val (.int (3 : Int32)), .val (.ref (A 3)), .val (.int (0 : Int32)), .val (.ref (B 3)), .val (.int (0 : Int32)), .unset] [])) (fun _ k => XS.icmpYes X28.here hx rfl (pc0 := 65) (pc' := 72) rfl (hb hby at_65) rfl (tlt ((by decide) : (3 : Int32) < (5 : Int32))).1 (by decide) (by decide) k) ?_
    refine Go.st (T' := T28) (g' := (mkF m 73 #[.val (.int x0), .val (.int (3 : Int32)), .val (.ref (A 3)), .val (.int (0 : Int32)), .val (.ref (B 3)), .val (.int (0 : Int32)), .unset] [(.int (0 : Int32))])) (fun _ k => XS.iconst X28.here hx rfl (hb hby at_72) k) ?_
    refine Go.st (T' := T28) (g' := (mkF m 75 #[.val (.int x0), .val (.int (3 : Int32)), .val (.ref (A 3)), .val (.int (0 : Int32)), .val (.ref (B 3)), .val (.int (0 : Int32)), .val (.int (0 : Int32))] [])) (fun _ k => XS.istore X28.here hx rfl (hb hby at_73) rfl (l' := #[.val (.int x0), .val (.int (3 : Int32)), .val (.ref (A 3)), .val (.int (0 : Int32)), .val (.ref (B 3)), .val (.int (0 : Int32)), .val (.int (0 : Int32))]) rfl k) ?_
    refine Go.st (T' := T28) (g' := (mkF m 76 #[.val (.int x0), .val (.int (3 : Int32)), .val (.ref (A 3)), .val (.int (0 : Int32)), .val (.ref (B 3)), .val (.int (0 : Int32)), .val (.int (0 : Int32))] [(.int (0 : Int32))])) (fun _ k => XS.iloadN X28.here hx rfl (hb hby at_75) rfl k) ?_
    refine Go.st (T' := T28) (g' := (mkF m 78 #[.val (.int x0), .val (.int (3 : Int32)), .val (.ref (A 3)), .val (.int (0 : Int32)), .val (.ref (B 3)), .val (.int (0 : Int32)), .val (.int (0 : Int32))] [(.int (0 : Int32)), (.int (0 : Int32))])) (fun _ k => XS.iload X28.here hx rfl (hb hby at_76) rfl k) ?_
    refine Go.st (T' := T28) (g' := (mkF m 81 #[.val (.int x0), .val (.int (3 : Int32)), .val (.ref (A 3)), .val (.int (0 : Int32)), .val (.ref (B 3)), .val (.int (0 : Int32)), .val (.int (0 : Int32))] [])) (fun _ k => XS.icmpNo X28.here hx rfl (hb hby at_78) rfl (teq ((by decide) : (0 : Int32) = (0 : Int32))).2 k) ?_
    refine Go.st (T' := T28) (g' := (mkF m 82 #[.val (.int x0), .val (.int (3 : Int32)), .val (.ref (A 3)), .val (.int (0 : Int32)), .val (.ref (B 3)), .val (.int (0 : Int32)), .val (.int (0 : Int32))] [(.int (0 : Int32))])) (fun _ k => XS.iloadN X28.here hx rfl (hb hby at_81) rfl k) ?_
    refine Go.st (T' := T28) (g' := (mkF m 84 #[.val (.int x0), .val (.int (3 : Int32)), .val (.ref (A 3)), .val (.int (0 : Int32)), .val (.ref (B 3)), .val (.int (0 : Int32)), .val (.int (0 : Int32))] [(.int (0 : Int32)), (.int (0 : Int32))])) (fun _ k => XS.iload X28.here hx rfl (hb hby at_82) rfl k) ?_
    refine Go.st (T' := T28) (g' := (mkF m 87 #[.val (.int x0), .val (.int (3 : Int32)), .val (.ref (A 3)), .val (.int (0 : Int32)), .val (.ref (B 3)), .val (.int (0 : Int32)), .val (.int (0 : Int32))] [])) (fun _ k => XS.icmpNo X28.here hx rfl (hb hby at_84) rfl (teq ((by decide) : (0 : Int32) = (0 : Int32))).2 k) ?_
    refine Go.st (T' := T28) (g' := (mkF m 88 #[.val (.int x0), .val (.int (3 : Int32)), .val (.ref (A 3)), .val (.int (0 : Int32)), .val (.ref (B 3)), .val (.int (0 : Int32)), .val (.int (0 : Int32))] [(.int (1 : Int32))])) (fun _ k => XS.iconst X28.here hx rfl (hb hby at_87) k) ?_
    refine Go.st (T' := T28) (g' := (mkF m 92 #[.val (.int x0), .val (.int (3 : Int32)), .val (.ref (A 3)), .val (.int (0 : Int32)), .val (.ref (B 3)), .val (.int (0 : Int32)), .val (.int (0 : Int32))] [(.int (1 : Int32))])) (fun _ k => XS.goto X28.here hx rfl (pc0 := 88) (pc' := 92) rfl (hb hby at_88) (by decide) (by decide) k) ?_
    refine Go.retN X28 hx hlk hret rfl (by simp) (hb hby at_92) (by decide) (by decide) e28 ?_
    exact ⟨rfl, N24⟩
  · refine Go.st (T' := s₁) (g' := (mkF m 8 #[.val (.int x0), .val (.int (4 : Int32)), .unset, .unset, .unset, .unset, .unset] [])) (fun _ k => XS.istoreN X0.here hx rfl (hb hby at_7) rfl (l' := #[.val (.int x0), .val (.int (4 : Int32)), .unset, .unset, .unset, .unset, .unset]) rfl k) ?_
    refine Go.st (T' := s₁) (g' := (mkF m 9 #[.val (.int x0), .val (.int (4 : Int32)), .unset, .unset, .unset, .unset, .unset] [(.int (4 : Int32))])) (fun _ k => XS.iloadN X0.here hx rfl (hb hby at_8) rfl k) ?_
    refine Go.callSt (y := (⟨"com/example/patience/patience/congruence/FormatIsRootedPinLaw", "pick", "(I)Lcom/example/patience/patience/congruence/Format;"⟩ : MethodName)) X0 hx hZ hown e0 (w1 hw) (w2 hw) (w3 hw) (w4 hw) (by decide) (argsL := [(.int (4 : Int32))]) (rest := []) (W := 0) (rm_pick l Z a0 hw [] (4 : Int32) (A 4) A h0 n0 Z0 O0 SS (Or.inr (Or.inr (Or.inr (Or.inr (Or.inl ⟨rfl, rfl⟩)))))) rfl (lenOf pd2 rfl) rfl (by rw [hml]; rfl) rfl (by show 2 * 0 + _ ≤ _; exact Nat.le_of_eq rfl) (by decide) (by decide) (by decide) (by decide) (hb hby at_9) ?_
    intro v29 T29 h29 L29 X29 e29 q29
    obtain ⟨hv29, Nf29, hh29⟩ := q29
    subst hv29
    have E29 : T29.heap = h0 := e29.trans hh29
    have N29 := Fr.app N0 Nf29
    show Go p.tables e below _ T29 (mkF m 12 #[.val (.int x0), .val (.int (4 : Int32)), .unset, .unset, .unset, .unset, .unset] [(.ref (A 4))])
    refine Go.st (T' := T29) (g' := (mkF m 13 #[.val (.int x0), .val (.int (4 : Int32)), .val (.ref (A 4)), .unset, .unset, .unset, .unset] [])) (fun _ k => XS.astoreN X29.here hx rfl (hb hby at_12) rfl rfl (l' := #[.val (.int x0), .val (.int (4 : Int32)), .val (.ref (A 4)), .unset, .unset, .unset, .unset]) rfl k) ?_
    refine Go.st (T' := T29) (g' := (mkF m 14 #[.val (.int x0), .val (.int (4 : Int32)), .val (.ref (A 4)), .unset, .unset, .unset, .unset] [(.ref (A 4))])) (fun _ k => XS.aloadN X29.here hx rfl (hb hby at_13) rfl rfl k) ?_
    refine Go.callV (y := (⟨"com/example/patience/patience/congruence/Format", "isRooted", "()Z"⟩ : MethodName)) (z := (⟨"com/example/patience/patience/congruence/Format", "isRooted", "()Z"⟩ : MethodName)) (C := "com/example/patience/patience/congruence/Format") (a := (A 4)) X29 hx hZ hown E29 (w8 hw) (w9 hw) (w11 hw) (w10 hw) (w6 hw) (w12 hw) (notFace_of_selects (args := #[]) (mvT hZ (w11 hw))) (by decide) (EE.2.2.2.2.1.ext O0.2) (argsL := []) (rest := []) (W := 0) (rm_rootedN l Z a0 hw [] (A 4) h0 n0 Z0 (TM.2.2.2.2.1.ext O0.2)) rfl (lenOf pd3 rfl) rfl (by rw [hml]; rfl) rfl (by show 2 * 0 + _ ≤ _; exact Nat.le_of_eq rfl) (by decide) (by decide) (by decide) (by decide) (hb hby at_14) ?_
    intro v30 T30 h30 L30 X30 e30 q30
    obtain ⟨hv30, Nf30, hh30⟩ := q30
    subst hv30
    have E30 : T30.heap = h0 := e30.trans hh30
    have N30 := Fr.app N29 Nf30
    show Go p.tables e below _ T30 (mkF m 17 #[.val (.int x0), .val (.int (4 : Int32)), .val (.ref (A 4)), .unset, .unset, .unset, .unset] [(.int (0 : Int32))])
    refine Go.st (T' := T30) (g' := (mkF m 18 #[.val (.int x0), .val (.int (4 : Int32)), .val (.ref (A 4)), .val (.int (0 : Int32)), .unset, .unset, .unset] [])) (fun _ k => XS.istoreN X30.here hx rfl (hb hby at_17) rfl (l' := #[.val (.int x0), .val (.int (4 : Int32)), .val (.ref (A 4)), .val (.int (0 : Int32)), .unset, .unset, .unset]) rfl k) ?_
    refine Go.st (T' := T30) (g' := (mkF m 19 #[.val (.int x0), .val (.int (4 : Int32)), .val (.ref (A 4)), .val (.int (0 : Int32)), .unset, .unset, .unset] [(.ref (A 4))])) (fun _ k => XS.aloadN X30.here hx rfl (hb hby at_18) rfl rfl k) ?_
    refine Go.callV (y := (⟨"com/example/patience/patience/congruence/Format", "equivalence", "()Lcom/example/patience/patience/equivalence/Equivalence;"⟩ : MethodName)) (z := (⟨"com/example/patience/patience/congruence/Format", "equivalence", "()Lcom/example/patience/patience/equivalence/Equivalence;"⟩ : MethodName)) (C := "com/example/patience/patience/congruence/Format") (a := (A 4)) X30 hx hZ hown E30 (w15 hw) (w16 hw) (w18 hw) (w17 hw) (w6 hw) (w19 hw) (notFace_of_selects (args := #[]) (mvT hZ (w18 hw))) (by decide) (EE.2.2.2.2.1.ext O0.2) (argsL := []) (rest := []) (W := 0) (rm_equivalence l Z a0 hw [] (A 4) (B 4) h0 n0 Z0 (QE.2.2.2.2.1.ext O0.2)) rfl (lenOf pd4 rfl) rfl (by rw [hml]; rfl) rfl (by show 2 * 0 + _ ≤ _; exact Nat.le_of_eq rfl) (by decide) (by decide) (by decide) (by decide) (hb hby at_19) ?_
    intro v31 T31 h31 L31 X31 e31 q31
    obtain ⟨hv31, Nf31, hh31⟩ := q31
    subst hv31
    have E31 : T31.heap = h0 := e31.trans hh31
    have N31 := Fr.app N30 Nf31
    show Go p.tables e below _ T31 (mkF m 22 #[.val (.int x0), .val (.int (4 : Int32)), .val (.ref (A 4)), .val (.int (0 : Int32)), .unset, .unset, .unset] [(.ref (B 4))])
    refine Go.st (T' := T31) (g' := (mkF m 24 #[.val (.int x0), .val (.int (4 : Int32)), .val (.ref (A 4)), .val (.int (0 : Int32)), .val (.ref (B 4)), .unset, .unset] [])) (fun _ k => XS.astore X31.here hx rfl (hb hby at_22) rfl rfl (l' := #[.val (.int x0), .val (.int (4 : Int32)), .val (.ref (A 4)), .val (.int (0 : Int32)), .val (.ref (B 4)), .unset, .unset]) rfl k) ?_
    refine Go.st (T' := T31) (g' := (mkF m 26 #[.val (.int x0), .val (.int (4 : Int32)), .val (.ref (A 4)), .val (.int (0 : Int32)), .val (.ref (B 4)), .unset, .unset] [(.ref (B 4))])) (fun _ k => XS.aload X31.here hx rfl (hb hby at_24) rfl rfl k) ?_
    obtain ⟨T32, X32, e32, st32⟩ := getS2 X31 hx hZ hown (host := "") (Or.inl (w24 hw)) Via.refl E31 (ES.1.ext O0.2) (g := (mkF m 26 #[.val (.int x0), .val (.int (4 : Int32)), .val (.ref (A 4)), .val (.int (0 : Int32)), .val (.ref (B 4)), .unset, .unset] [(.ref (B 4))])) rfl (hb hby at_26)
    refine Go.st (T' := T32) (g' := (mkF m 29 #[.val (.int x0), .val (.int (4 : Int32)), .val (.ref (A 4)), .val (.int (0 : Int32)), .val (.ref (B 4)), .unset, .unset] [(.ref (B 5)), (.ref (B 4))])) (fun _ k => st32 _ k) ?_
    refine Go.st (T' := T32) (g' := (mkF m 32 #[.val (.int x0), .val (.int (4 : Int32)), .val (.ref (A 4)), .val (.int (0 : Int32)), .val (.ref (B 4)), .unset, .unset] [])) (fun _ k => Jvm.RoadKit.acmp (g := (mkF m 29 #[.val (.int x0), .val (.int (4 : Int32)), .val (.ref (A 4)), .val (.int (0 : Int32)), .val (.ref (B 4)), .unset, .unset] [(.ref (B 5)), (.ref (B 4))])) X32 hx rfl rfl rfl (pc0 := 29) (pc' := 32) (same := false) rfl (hb hby at_29) rfl (decide_eq_false fun q => absurd (Value.ref.inj q) (Fld.ne OR.2.2.2.2.1 OR.2.2.2.2.2.1 (by simp))) (by decide) (by decide) k) ?_
    refine Go.st (T' := T32) (g' := (mkF m 34 #[.val (.int x0), .val (.int (4 : Int32)), .val (.ref (A 4)), .val (.int (0 : Int32)), .val (.ref (B 4)), .unset, .unset] [(.ref (B 4))])) (fun _ k => XS.aload X32.here hx rfl (hb hby at_32) rfl rfl k) ?_
    obtain ⟨T33, X33, e33, st33⟩ := getS2 X32 hx hZ hown (host := "") (Or.inl (w26 hw)) Via.refl e32 (ES.2.1.ext O0.2) (g := (mkF m 34 #[.val (.int x0), .val (.int (4 : Int32)), .val (.ref (A 4)), .val (.int (0 : Int32)), .val (.ref (B 4)), .unset, .unset] [(.ref (B 4))])) rfl (hb hby at_34)
    refine Go.st (T' := T33) (g' := (mkF m 37 #[.val (.int x0), .val (.int (4 : Int32)), .val (.ref (A 4)), .val (.int (0 : Int32)), .val (.ref (B 4)), .unset, .unset] [(.ref (B 6)), (.ref (B 4))])) (fun _ k => st33 _ k) ?_
    refine Go.st (T' := T33) (g' := (mkF m 40 #[.val (.int x0), .val (.int (4 : Int32)), .val (.ref (A 4)), .val (.int (0 : Int32)), .val (.ref (B 4)), .unset, .unset] [])) (fun _ k => Jvm.RoadKit.acmp (g := (mkF m 37 #[.val (.int x0), .val (.int (4 : Int32)), .val (.ref (A 4)), .val (.int (0 : Int32)), .val (.ref (B 4)), .unset, .unset] [(.ref (B 6)), (.ref (B 4))])) X33 hx rfl rfl rfl (pc0 := 37) (pc' := 40) (same := false) rfl (hb hby at_37) rfl (decide_eq_false fun q => absurd (Value.ref.inj q) (Fld.ne OR.2.2.2.2.1 OR.2.2.2.2.2.2.1 (by simp))) (by decide) (by decide) k) ?_
    refine Go.st (T' := T33) (g' := (mkF m 42 #[.val (.int x0), .val (.int (4 : Int32)), .val (.ref (A 4)), .val (.int (0 : Int32)), .val (.ref (B 4)), .unset, .unset] [(.ref (B 4))])) (fun _ k => XS.aload X33.here hx rfl (hb hby at_40) rfl rfl k) ?_
    obtain ⟨T34, X34, e34, st34⟩ := getS2 X33 hx hZ hown (host := "") (Or.inl (w28 hw)) Via.refl e33 (ES.2.2.1.ext O0.2) (g := (mkF m 42 #[.val (.int x0), .val (.int (4 : Int32)), .val (.ref (A 4)), .val (.int (0 : Int32)), .val (.ref (B 4)), .unset, .unset] [(.ref (B 4))])) rfl (hb hby at_42)
    refine Go.st (T' := T34) (g' := (mkF m 45 #[.val (.int x0), .val (.int (4 : Int32)), .val (.ref (A 4)), .val (.int (0 : Int32)), .val (.ref (B 4)), .unset, .unset] [(.ref (B 7)), (.ref (B 4))])) (fun _ k => st34 _ k) ?_
    refine Go.st (T' := T34) (g' := (mkF m 48 #[.val (.int x0), .val (.int (4 : Int32)), .val (.ref (A 4)), .val (.int (0 : Int32)), .val (.ref (B 4)), .unset, .unset] [])) (fun _ k => Jvm.RoadKit.acmp (g := (mkF m 45 #[.val (.int x0), .val (.int (4 : Int32)), .val (.ref (A 4)), .val (.int (0 : Int32)), .val (.ref (B 4)), .unset, .unset] [(.ref (B 7)), (.ref (B 4))])) X34 hx rfl rfl rfl (pc0 := 45) (pc' := 48) (same := false) rfl (hb hby at_45) rfl (decide_eq_false fun q => absurd (Value.ref.inj q) (Fld.ne OR.2.2.2.2.1 OR.2.2.2.2.2.2.2.1 (by simp))) (by decide) (by decide) k) ?_
    refine Go.st (T' := T34) (g' := (mkF m 50 #[.val (.int x0), .val (.int (4 : Int32)), .val (.ref (A 4)), .val (.int (0 : Int32)), .val (.ref (B 4)), .unset, .unset] [(.ref (B 4))])) (fun _ k => XS.aload X34.here hx rfl (hb hby at_48) rfl rfl k) ?_
    obtain ⟨T35, X35, e35, st35⟩ := getS2 X34 hx hZ hown (host := "") (Or.inl (w30 hw)) Via.refl e34 (ES.2.2.2.ext O0.2) (g := (mkF m 50 #[.val (.int x0), .val (.int (4 : Int32)), .val (.ref (A 4)), .val (.int (0 : Int32)), .val (.ref (B 4)), .unset, .unset] [(.ref (B 4))])) rfl (hb hby at_50)
    refine Go.st (T' := T35) (g' := (mkF m 53 #[.val (.int x0), .val (.int (4 : Int32)), .val (.ref (A 4)), .val (.int (0 : Int32)), .val (.ref (B 4)), .unset, .unset] [(.ref (B 8)), (.ref (B 4))])) (fun _ k => st35 _ k) ?_
    refine Go.st (T' := T35) (g' := (mkF m 60 #[.val (.int x0), .val (.int (4 : Int32)), .val (.ref (A 4)), .val (.int (0 : Int32)), .val (.ref (B 4)), .unset, .unset] [])) (fun _ k => Jvm.RoadKit.acmp (g := (mkF m 53 #[.val (.int x0), .val (.int (4 : Int32)), .val (.ref (A 4)), .val (.int (0 : Int32)), .val (.ref (B 4)), .unset, .unset] [(.ref (B 8)), (.ref (B 4))])) X35 hx rfl rfl rfl (pc0 := 53) (pc' := 60) (same := false) rfl (hb hby at_53) rfl (decide_eq_false fun q => absurd (Value.ref.inj q) (Fld.ne OR.2.2.2.2.1 OR.2.2.2.2.2.2.2.2 (by simp))) (by decide) (by decide) k) ?_
    refine Go.st (T' := T35) (g' := (mkF m 61 #[.val (.int x0), .val (.int (4 : Int32)), .val (.ref (A 4)), .val (.int (0 : Int32)), .val (.ref (B 4)), .unset, .unset] [(.int (0 : Int32))])) (fun _ k => XS.iconst X35.here hx rfl (hb hby at_60) k) ?_
    refine Go.st (T' := T35) (g' := (mkF m 63 #[.val (.int x0), .val (.int (4 : Int32)), .val (.ref (A 4)), .val (.int (0 : Int32)), .val (.ref (B 4)), .val (.int (0 : Int32)), .unset] [])) (fun _ k => XS.istore X35.here hx rfl (hb hby at_61) rfl (l' := #[.val (.int x0), .val (.int (4 : Int32)), .val (.ref (A 4)), .val (.int (0 : Int32)), .val (.ref (B 4)), .val (.int (0 : Int32)), .unset]) rfl k) ?_
    refine Go.st (T' := T35) (g' := (mkF m 64 #[.val (.int x0), .val (.int (4 : Int32)), .val (.ref (A 4)), .val (.int (0 : Int32)), .val (.ref (B 4)), .val (.int (0 : Int32)), .unset] [(.int (4 : Int32))])) (fun _ k => XS.iloadN X35.here hx rfl (hb hby at_63) rfl k) ?_
    refine Go.st (T' := T35) (g' := (mkF m 65 #[.val (.int x0), .val (.int (4 : Int32)), .val (.ref (A 4)), .val (.int (0 : Int32)), .val (.ref (B 4)), .val (.int (0 : Int32)), .unset] [(.int (5 : Int32)), (.int (4 : Int32))])) (fun _ k => XS.iconst X35.here hx rfl (hb hby at_64) k) ?_
    refine Go.st (T' := T35) (g' := (mkF m 72 #[.val (.int x0), .val (.int (4 : Int32)), .val (.ref (A 4)), .val (.int (0 : Int32)), .val (.ref (B 4)), .val (.int (0 : Int32)), .unset] [])) (fun _ k => XS.icmpYes X35.here hx rfl (pc0 := 65) (pc' := 72) rfl (hb hby at_65) rfl (tlt ((by decide) : (4 : Int32) < (5 : Int32))).1 (by decide) (by decide) k) ?_
    refine Go.st (T' := T35) (g' := (mkF m 73 #[.val (.int x0), .val (.int (4 : Int32)), .val (.ref (A 4)), .val (.int (0 : Int32)), .val (.ref (B 4)), .val (.int (0 : Int32)), .unset] [(.int (0 : Int32))])) (fun _ k => XS.iconst X35.here hx rfl (hb hby at_72) k) ?_
    refine Go.st (T' := T35) (g' := (mkF m 75 #[.val (.int x0), .val (.int (4 : Int32)), .val (.ref (A 4)), .val (.int (0 : Int32)), .val (.ref (B 4)), .val (.int (0 : Int32)), .val (.int (0 : Int32))] [])) (fun _ k => XS.istore X35.here hx rfl (hb hby at_73) rfl (l' := #[.val (.int x0), .val (.int (4 : Int32)), .val (.ref (A 4)), .val (.int (0 : Int32)), .val (.ref (B 4)), .val (.int (0 : Int32)), .val (.int (0 : Int32))]) rfl k) ?_
    refine Go.st (T' := T35) (g' := (mkF m 76 #[.val (.int x0), .val (.int (4 : Int32)), .val (.ref (A 4)), .val (.int (0 : Int32)), .val (.ref (B 4)), .val (.int (0 : Int32)), .val (.int (0 : Int32))] [(.int (0 : Int32))])) (fun _ k => XS.iloadN X35.here hx rfl (hb hby at_75) rfl k) ?_
    refine Go.st (T' := T35) (g' := (mkF m 78 #[.val (.int x0), .val (.int (4 : Int32)), .val (.ref (A 4)), .val (.int (0 : Int32)), .val (.ref (B 4)), .val (.int (0 : Int32)), .val (.int (0 : Int32))] [(.int (0 : Int32)), (.int (0 : Int32))])) (fun _ k => XS.iload X35.here hx rfl (hb hby at_76) rfl k) ?_
    refine Go.st (T' := T35) (g' := (mkF m 81 #[.val (.int x0), .val (.int (4 : Int32)), .val (.ref (A 4)), .val (.int (0 : Int32)), .val (.ref (B 4)), .val (.int (0 : Int32)), .val (.int (0 : Int32))] [])) (fun _ k => XS.icmpNo X35.here hx rfl (hb hby at_78) rfl (teq ((by decide) : (0 : Int32) = (0 : Int32))).2 k) ?_
    refine Go.st (T' := T35) (g' := (mkF m 82 #[.val (.int x0), .val (.int (4 : Int32)), .val (.ref (A 4)), .val (.int (0 : Int32)), .val (.ref (B 4)), .val (.int (0 : Int32)), .val (.int (0 : Int32))] [(.int (0 : Int32))])) (fun _ k => XS.iloadN X35.here hx rfl (hb hby at_81) rfl k) ?_
    refine Go.st (T' := T35) (g' := (mkF m 84 #[.val (.int x0), .val (.int (4 : Int32)), .val (.ref (A 4)), .val (.int (0 : Int32)), .val (.ref (B 4)), .val (.int (0 : Int32)), .val (.int (0 : Int32))] [(.int (0 : Int32)), (.int (0 : Int32))])) (fun _ k => XS.iload X35.here hx rfl (hb hby at_82) rfl k) ?_
    refine Go.st (T' := T35) (g' := (mkF m 87 #[.val (.int x0), .val (.int (4 : Int32)), .val (.ref (A 4)), .val (.int (0 : Int32)), .val (.ref (B 4)), .val (.int (0 : Int32)), .val (.int (0 : Int32))] [])) (fun _ k => XS.icmpNo X35.here hx rfl (hb hby at_84) rfl (teq ((by decide) : (0 : Int32) = (0 : Int32))).2 k) ?_
    refine Go.st (T' := T35) (g' := (mkF m 88 #[.val (.int x0), .val (.int (4 : Int32)), .val (.ref (A 4)), .val (.int (0 : Int32)), .val (.ref (B 4)), .val (.int (0 : Int32)), .val (.int (0 : Int32))] [(.int (1 : Int32))])) (fun _ k => XS.iconst X35.here hx rfl (hb hby at_87) k) ?_
    refine Go.st (T' := T35) (g' := (mkF m 92 #[.val (.int x0), .val (.int (4 : Int32)), .val (.ref (A 4)), .val (.int (0 : Int32)), .val (.ref (B 4)), .val (.int (0 : Int32)), .val (.int (0 : Int32))] [(.int (1 : Int32))])) (fun _ k => XS.goto X35.here hx rfl (pc0 := 88) (pc' := 92) rfl (hb hby at_88) (by decide) (by decide) k) ?_
    refine Go.retN X35 hx hlk hret rfl (by simp) (hb hby at_92) (by decide) (by decide) e35 ?_
    exact ⟨rfl, N31⟩
  · refine Go.st (T' := s₁) (g' := (mkF m 8 #[.val (.int x0), .val (.int (5 : Int32)), .unset, .unset, .unset, .unset, .unset] [])) (fun _ k => XS.istoreN X0.here hx rfl (hb hby at_7) rfl (l' := #[.val (.int x0), .val (.int (5 : Int32)), .unset, .unset, .unset, .unset, .unset]) rfl k) ?_
    refine Go.st (T' := s₁) (g' := (mkF m 9 #[.val (.int x0), .val (.int (5 : Int32)), .unset, .unset, .unset, .unset, .unset] [(.int (5 : Int32))])) (fun _ k => XS.iloadN X0.here hx rfl (hb hby at_8) rfl k) ?_
    refine Go.callSt (y := (⟨"com/example/patience/patience/congruence/FormatIsRootedPinLaw", "pick", "(I)Lcom/example/patience/patience/congruence/Format;"⟩ : MethodName)) X0 hx hZ hown e0 (w1 hw) (w2 hw) (w3 hw) (w4 hw) (by decide) (argsL := [(.int (5 : Int32))]) (rest := []) (W := 0) (rm_pick l Z a0 hw [] (5 : Int32) (A 5) A h0 n0 Z0 O0 SS (Or.inr (Or.inr (Or.inr (Or.inr (Or.inr (Or.inl ⟨rfl, rfl⟩))))))) rfl (lenOf pd2 rfl) rfl (by rw [hml]; rfl) rfl (by show 2 * 0 + _ ≤ _; exact Nat.le_of_eq rfl) (by decide) (by decide) (by decide) (by decide) (hb hby at_9) ?_
    intro v36 T36 h36 L36 X36 e36 q36
    obtain ⟨hv36, Nf36, hh36⟩ := q36
    subst hv36
    have E36 : T36.heap = h0 := e36.trans hh36
    have N36 := Fr.app N0 Nf36
    show Go p.tables e below _ T36 (mkF m 12 #[.val (.int x0), .val (.int (5 : Int32)), .unset, .unset, .unset, .unset, .unset] [(.ref (A 5))])
    refine Go.st (T' := T36) (g' := (mkF m 13 #[.val (.int x0), .val (.int (5 : Int32)), .val (.ref (A 5)), .unset, .unset, .unset, .unset] [])) (fun _ k => XS.astoreN X36.here hx rfl (hb hby at_12) rfl rfl (l' := #[.val (.int x0), .val (.int (5 : Int32)), .val (.ref (A 5)), .unset, .unset, .unset, .unset]) rfl k) ?_
    refine Go.st (T' := T36) (g' := (mkF m 14 #[.val (.int x0), .val (.int (5 : Int32)), .val (.ref (A 5)), .unset, .unset, .unset, .unset] [(.ref (A 5))])) (fun _ k => XS.aloadN X36.here hx rfl (hb hby at_13) rfl rfl k) ?_
    refine Go.callV (y := (⟨"com/example/patience/patience/congruence/Format", "isRooted", "()Z"⟩ : MethodName)) (z := (⟨"com/example/patience/patience/congruence/Format", "isRooted", "()Z"⟩ : MethodName)) (C := "com/example/patience/patience/congruence/Format") (a := (A 5)) X36 hx hZ hown E36 (w8 hw) (w9 hw) (w11 hw) (w10 hw) (w6 hw) (w12 hw) (notFace_of_selects (args := #[]) (mvT hZ (w11 hw))) (by decide) (EE.2.2.2.2.2.1.ext O0.2) (argsL := []) (rest := []) (W := 0) (rm_rootedR l Z a0 hw [] (A 5) (A 1) h0 n0 Z0 (TM.2.2.2.2.2.1.ext O0.2)) rfl (lenOf pd3 rfl) rfl (by rw [hml]; rfl) rfl (by show 2 * 0 + _ ≤ _; exact Nat.le_of_eq rfl) (by decide) (by decide) (by decide) (by decide) (hb hby at_14) ?_
    intro v37 T37 h37 L37 X37 e37 q37
    obtain ⟨hv37, Nf37, hh37⟩ := q37
    subst hv37
    have E37 : T37.heap = h0 := e37.trans hh37
    have N37 := Fr.app N36 Nf37
    show Go p.tables e below _ T37 (mkF m 17 #[.val (.int x0), .val (.int (5 : Int32)), .val (.ref (A 5)), .unset, .unset, .unset, .unset] [(.int (1 : Int32))])
    refine Go.st (T' := T37) (g' := (mkF m 18 #[.val (.int x0), .val (.int (5 : Int32)), .val (.ref (A 5)), .val (.int (1 : Int32)), .unset, .unset, .unset] [])) (fun _ k => XS.istoreN X37.here hx rfl (hb hby at_17) rfl (l' := #[.val (.int x0), .val (.int (5 : Int32)), .val (.ref (A 5)), .val (.int (1 : Int32)), .unset, .unset, .unset]) rfl k) ?_
    refine Go.st (T' := T37) (g' := (mkF m 19 #[.val (.int x0), .val (.int (5 : Int32)), .val (.ref (A 5)), .val (.int (1 : Int32)), .unset, .unset, .unset] [(.ref (A 5))])) (fun _ k => XS.aloadN X37.here hx rfl (hb hby at_18) rfl rfl k) ?_
    refine Go.callV (y := (⟨"com/example/patience/patience/congruence/Format", "equivalence", "()Lcom/example/patience/patience/equivalence/Equivalence;"⟩ : MethodName)) (z := (⟨"com/example/patience/patience/congruence/Format", "equivalence", "()Lcom/example/patience/patience/equivalence/Equivalence;"⟩ : MethodName)) (C := "com/example/patience/patience/congruence/Format") (a := (A 5)) X37 hx hZ hown E37 (w15 hw) (w16 hw) (w18 hw) (w17 hw) (w6 hw) (w19 hw) (notFace_of_selects (args := #[]) (mvT hZ (w18 hw))) (by decide) (EE.2.2.2.2.2.1.ext O0.2) (argsL := []) (rest := []) (W := 0) (rm_equivalence l Z a0 hw [] (A 5) (B 5) h0 n0 Z0 (QE.2.2.2.2.2.1.ext O0.2)) rfl (lenOf pd4 rfl) rfl (by rw [hml]; rfl) rfl (by show 2 * 0 + _ ≤ _; exact Nat.le_of_eq rfl) (by decide) (by decide) (by decide) (by decide) (hb hby at_19) ?_
    intro v38 T38 h38 L38 X38 e38 q38
    obtain ⟨hv38, Nf38, hh38⟩ := q38
    subst hv38
    have E38 : T38.heap = h0 := e38.trans hh38
    have N38 := Fr.app N37 Nf38
    show Go p.tables e below _ T38 (mkF m 22 #[.val (.int x0), .val (.int (5 : Int32)), .val (.ref (A 5)), .val (.int (1 : Int32)), .unset, .unset, .unset] [(.ref (B 5))])
    refine Go.st (T' := T38) (g' := (mkF m 24 #[.val (.int x0), .val (.int (5 : Int32)), .val (.ref (A 5)), .val (.int (1 : Int32)), .val (.ref (B 5)), .unset, .unset] [])) (fun _ k => XS.astore X38.here hx rfl (hb hby at_22) rfl rfl (l' := #[.val (.int x0), .val (.int (5 : Int32)), .val (.ref (A 5)), .val (.int (1 : Int32)), .val (.ref (B 5)), .unset, .unset]) rfl k) ?_
    refine Go.st (T' := T38) (g' := (mkF m 26 #[.val (.int x0), .val (.int (5 : Int32)), .val (.ref (A 5)), .val (.int (1 : Int32)), .val (.ref (B 5)), .unset, .unset] [(.ref (B 5))])) (fun _ k => XS.aload X38.here hx rfl (hb hby at_24) rfl rfl k) ?_
    obtain ⟨T39, X39, e39, st39⟩ := getS2 X38 hx hZ hown (host := "") (Or.inl (w24 hw)) Via.refl E38 (ES.1.ext O0.2) (g := (mkF m 26 #[.val (.int x0), .val (.int (5 : Int32)), .val (.ref (A 5)), .val (.int (1 : Int32)), .val (.ref (B 5)), .unset, .unset] [(.ref (B 5))])) rfl (hb hby at_26)
    refine Go.st (T' := T39) (g' := (mkF m 29 #[.val (.int x0), .val (.int (5 : Int32)), .val (.ref (A 5)), .val (.int (1 : Int32)), .val (.ref (B 5)), .unset, .unset] [(.ref (B 5)), (.ref (B 5))])) (fun _ k => st39 _ k) ?_
    refine Go.st (T' := T39) (g' := (mkF m 56 #[.val (.int x0), .val (.int (5 : Int32)), .val (.ref (A 5)), .val (.int (1 : Int32)), .val (.ref (B 5)), .unset, .unset] [])) (fun _ k => Jvm.RoadKit.acmp (g := (mkF m 29 #[.val (.int x0), .val (.int (5 : Int32)), .val (.ref (A 5)), .val (.int (1 : Int32)), .val (.ref (B 5)), .unset, .unset] [(.ref (B 5)), (.ref (B 5))])) X39 hx rfl rfl rfl (pc0 := 29) (pc' := 56) (same := true) rfl (hb hby at_29) rfl (decide_eq_true rfl) (by decide) (by decide) k) ?_
    refine Go.st (T' := T39) (g' := (mkF m 57 #[.val (.int x0), .val (.int (5 : Int32)), .val (.ref (A 5)), .val (.int (1 : Int32)), .val (.ref (B 5)), .unset, .unset] [(.int (1 : Int32))])) (fun _ k => XS.iconst X39.here hx rfl (hb hby at_56) k) ?_
    refine Go.st (T' := T39) (g' := (mkF m 61 #[.val (.int x0), .val (.int (5 : Int32)), .val (.ref (A 5)), .val (.int (1 : Int32)), .val (.ref (B 5)), .unset, .unset] [(.int (1 : Int32))])) (fun _ k => XS.goto X39.here hx rfl (pc0 := 57) (pc' := 61) rfl (hb hby at_57) (by decide) (by decide) k) ?_
    refine Go.st (T' := T39) (g' := (mkF m 63 #[.val (.int x0), .val (.int (5 : Int32)), .val (.ref (A 5)), .val (.int (1 : Int32)), .val (.ref (B 5)), .val (.int (1 : Int32)), .unset] [])) (fun _ k => XS.istore X39.here hx rfl (hb hby at_61) rfl (l' := #[.val (.int x0), .val (.int (5 : Int32)), .val (.ref (A 5)), .val (.int (1 : Int32)), .val (.ref (B 5)), .val (.int (1 : Int32)), .unset]) rfl k) ?_
    refine Go.st (T' := T39) (g' := (mkF m 64 #[.val (.int x0), .val (.int (5 : Int32)), .val (.ref (A 5)), .val (.int (1 : Int32)), .val (.ref (B 5)), .val (.int (1 : Int32)), .unset] [(.int (5 : Int32))])) (fun _ k => XS.iloadN X39.here hx rfl (hb hby at_63) rfl k) ?_
    refine Go.st (T' := T39) (g' := (mkF m 65 #[.val (.int x0), .val (.int (5 : Int32)), .val (.ref (A 5)), .val (.int (1 : Int32)), .val (.ref (B 5)), .val (.int (1 : Int32)), .unset] [(.int (5 : Int32)), (.int (5 : Int32))])) (fun _ k => XS.iconst X39.here hx rfl (hb hby at_64) k) ?_
    refine Go.st (T' := T39) (g' := (mkF m 68 #[.val (.int x0), .val (.int (5 : Int32)), .val (.ref (A 5)), .val (.int (1 : Int32)), .val (.ref (B 5)), .val (.int (1 : Int32)), .unset] [])) (fun _ k => XS.icmpNo X39.here hx rfl (hb hby at_65) rfl (flt ((by decide) : ¬ ((5 : Int32) < (5 : Int32)))).1 k) ?_
    refine Go.st (T' := T39) (g' := (mkF m 69 #[.val (.int x0), .val (.int (5 : Int32)), .val (.ref (A 5)), .val (.int (1 : Int32)), .val (.ref (B 5)), .val (.int (1 : Int32)), .unset] [(.int (1 : Int32))])) (fun _ k => XS.iconst X39.here hx rfl (hb hby at_68) k) ?_
    refine Go.st (T' := T39) (g' := (mkF m 73 #[.val (.int x0), .val (.int (5 : Int32)), .val (.ref (A 5)), .val (.int (1 : Int32)), .val (.ref (B 5)), .val (.int (1 : Int32)), .unset] [(.int (1 : Int32))])) (fun _ k => XS.goto X39.here hx rfl (pc0 := 69) (pc' := 73) rfl (hb hby at_69) (by decide) (by decide) k) ?_
    refine Go.st (T' := T39) (g' := (mkF m 75 #[.val (.int x0), .val (.int (5 : Int32)), .val (.ref (A 5)), .val (.int (1 : Int32)), .val (.ref (B 5)), .val (.int (1 : Int32)), .val (.int (1 : Int32))] [])) (fun _ k => XS.istore X39.here hx rfl (hb hby at_73) rfl (l' := #[.val (.int x0), .val (.int (5 : Int32)), .val (.ref (A 5)), .val (.int (1 : Int32)), .val (.ref (B 5)), .val (.int (1 : Int32)), .val (.int (1 : Int32))]) rfl k) ?_
    refine Go.st (T' := T39) (g' := (mkF m 76 #[.val (.int x0), .val (.int (5 : Int32)), .val (.ref (A 5)), .val (.int (1 : Int32)), .val (.ref (B 5)), .val (.int (1 : Int32)), .val (.int (1 : Int32))] [(.int (1 : Int32))])) (fun _ k => XS.iloadN X39.here hx rfl (hb hby at_75) rfl k) ?_
    refine Go.st (T' := T39) (g' := (mkF m 78 #[.val (.int x0), .val (.int (5 : Int32)), .val (.ref (A 5)), .val (.int (1 : Int32)), .val (.ref (B 5)), .val (.int (1 : Int32)), .val (.int (1 : Int32))] [(.int (1 : Int32)), (.int (1 : Int32))])) (fun _ k => XS.iload X39.here hx rfl (hb hby at_76) rfl k) ?_
    refine Go.st (T' := T39) (g' := (mkF m 81 #[.val (.int x0), .val (.int (5 : Int32)), .val (.ref (A 5)), .val (.int (1 : Int32)), .val (.ref (B 5)), .val (.int (1 : Int32)), .val (.int (1 : Int32))] [])) (fun _ k => XS.icmpNo X39.here hx rfl (hb hby at_78) rfl (teq ((by decide) : (1 : Int32) = (1 : Int32))).2 k) ?_
    refine Go.st (T' := T39) (g' := (mkF m 82 #[.val (.int x0), .val (.int (5 : Int32)), .val (.ref (A 5)), .val (.int (1 : Int32)), .val (.ref (B 5)), .val (.int (1 : Int32)), .val (.int (1 : Int32))] [(.int (1 : Int32))])) (fun _ k => XS.iloadN X39.here hx rfl (hb hby at_81) rfl k) ?_
    refine Go.st (T' := T39) (g' := (mkF m 84 #[.val (.int x0), .val (.int (5 : Int32)), .val (.ref (A 5)), .val (.int (1 : Int32)), .val (.ref (B 5)), .val (.int (1 : Int32)), .val (.int (1 : Int32))] [(.int (1 : Int32)), (.int (1 : Int32))])) (fun _ k => XS.iload X39.here hx rfl (hb hby at_82) rfl k) ?_
    refine Go.st (T' := T39) (g' := (mkF m 87 #[.val (.int x0), .val (.int (5 : Int32)), .val (.ref (A 5)), .val (.int (1 : Int32)), .val (.ref (B 5)), .val (.int (1 : Int32)), .val (.int (1 : Int32))] [])) (fun _ k => XS.icmpNo X39.here hx rfl (hb hby at_84) rfl (teq ((by decide) : (1 : Int32) = (1 : Int32))).2 k) ?_
    refine Go.st (T' := T39) (g' := (mkF m 88 #[.val (.int x0), .val (.int (5 : Int32)), .val (.ref (A 5)), .val (.int (1 : Int32)), .val (.ref (B 5)), .val (.int (1 : Int32)), .val (.int (1 : Int32))] [(.int (1 : Int32))])) (fun _ k => XS.iconst X39.here hx rfl (hb hby at_87) k) ?_
    refine Go.st (T' := T39) (g' := (mkF m 92 #[.val (.int x0), .val (.int (5 : Int32)), .val (.ref (A 5)), .val (.int (1 : Int32)), .val (.ref (B 5)), .val (.int (1 : Int32)), .val (.int (1 : Int32))] [(.int (1 : Int32))])) (fun _ k => XS.goto X39.here hx rfl (pc0 := 88) (pc' := 92) rfl (hb hby at_88) (by decide) (by decide) k) ?_
    refine Go.retN X39 hx hlk hret rfl (by simp) (hb hby at_92) (by decide) (by decide) e39 ?_
    exact ⟨rfl, N38⟩
  · refine Go.st (T' := s₁) (g' := (mkF m 8 #[.val (.int x0), .val (.int (6 : Int32)), .unset, .unset, .unset, .unset, .unset] [])) (fun _ k => XS.istoreN X0.here hx rfl (hb hby at_7) rfl (l' := #[.val (.int x0), .val (.int (6 : Int32)), .unset, .unset, .unset, .unset, .unset]) rfl k) ?_
    refine Go.st (T' := s₁) (g' := (mkF m 9 #[.val (.int x0), .val (.int (6 : Int32)), .unset, .unset, .unset, .unset, .unset] [(.int (6 : Int32))])) (fun _ k => XS.iloadN X0.here hx rfl (hb hby at_8) rfl k) ?_
    refine Go.callSt (y := (⟨"com/example/patience/patience/congruence/FormatIsRootedPinLaw", "pick", "(I)Lcom/example/patience/patience/congruence/Format;"⟩ : MethodName)) X0 hx hZ hown e0 (w1 hw) (w2 hw) (w3 hw) (w4 hw) (by decide) (argsL := [(.int (6 : Int32))]) (rest := []) (W := 0) (rm_pick l Z a0 hw [] (6 : Int32) (A 6) A h0 n0 Z0 O0 SS (Or.inr (Or.inr (Or.inr (Or.inr (Or.inr (Or.inr (Or.inl ⟨rfl, rfl⟩)))))))) rfl (lenOf pd2 rfl) rfl (by rw [hml]; rfl) rfl (by show 2 * 0 + _ ≤ _; exact Nat.le_of_eq rfl) (by decide) (by decide) (by decide) (by decide) (hb hby at_9) ?_
    intro v40 T40 h40 L40 X40 e40 q40
    obtain ⟨hv40, Nf40, hh40⟩ := q40
    subst hv40
    have E40 : T40.heap = h0 := e40.trans hh40
    have N40 := Fr.app N0 Nf40
    show Go p.tables e below _ T40 (mkF m 12 #[.val (.int x0), .val (.int (6 : Int32)), .unset, .unset, .unset, .unset, .unset] [(.ref (A 6))])
    refine Go.st (T' := T40) (g' := (mkF m 13 #[.val (.int x0), .val (.int (6 : Int32)), .val (.ref (A 6)), .unset, .unset, .unset, .unset] [])) (fun _ k => XS.astoreN X40.here hx rfl (hb hby at_12) rfl rfl (l' := #[.val (.int x0), .val (.int (6 : Int32)), .val (.ref (A 6)), .unset, .unset, .unset, .unset]) rfl k) ?_
    refine Go.st (T' := T40) (g' := (mkF m 14 #[.val (.int x0), .val (.int (6 : Int32)), .val (.ref (A 6)), .unset, .unset, .unset, .unset] [(.ref (A 6))])) (fun _ k => XS.aloadN X40.here hx rfl (hb hby at_13) rfl rfl k) ?_
    refine Go.callV (y := (⟨"com/example/patience/patience/congruence/Format", "isRooted", "()Z"⟩ : MethodName)) (z := (⟨"com/example/patience/patience/congruence/Format", "isRooted", "()Z"⟩ : MethodName)) (C := "com/example/patience/patience/congruence/Format") (a := (A 6)) X40 hx hZ hown E40 (w8 hw) (w9 hw) (w11 hw) (w10 hw) (w6 hw) (w12 hw) (notFace_of_selects (args := #[]) (mvT hZ (w11 hw))) (by decide) (EE.2.2.2.2.2.2.1.ext O0.2) (argsL := []) (rest := []) (W := 0) (rm_rootedR l Z a0 hw [] (A 6) (A 2) h0 n0 Z0 (TM.2.2.2.2.2.2.1.ext O0.2)) rfl (lenOf pd3 rfl) rfl (by rw [hml]; rfl) rfl (by show 2 * 0 + _ ≤ _; exact Nat.le_of_eq rfl) (by decide) (by decide) (by decide) (by decide) (hb hby at_14) ?_
    intro v41 T41 h41 L41 X41 e41 q41
    obtain ⟨hv41, Nf41, hh41⟩ := q41
    subst hv41
    have E41 : T41.heap = h0 := e41.trans hh41
    have N41 := Fr.app N40 Nf41
    show Go p.tables e below _ T41 (mkF m 17 #[.val (.int x0), .val (.int (6 : Int32)), .val (.ref (A 6)), .unset, .unset, .unset, .unset] [(.int (1 : Int32))])
    refine Go.st (T' := T41) (g' := (mkF m 18 #[.val (.int x0), .val (.int (6 : Int32)), .val (.ref (A 6)), .val (.int (1 : Int32)), .unset, .unset, .unset] [])) (fun _ k => XS.istoreN X41.here hx rfl (hb hby at_17) rfl (l' := #[.val (.int x0), .val (.int (6 : Int32)), .val (.ref (A 6)), .val (.int (1 : Int32)), .unset, .unset, .unset]) rfl k) ?_
    refine Go.st (T' := T41) (g' := (mkF m 19 #[.val (.int x0), .val (.int (6 : Int32)), .val (.ref (A 6)), .val (.int (1 : Int32)), .unset, .unset, .unset] [(.ref (A 6))])) (fun _ k => XS.aloadN X41.here hx rfl (hb hby at_18) rfl rfl k) ?_
    refine Go.callV (y := (⟨"com/example/patience/patience/congruence/Format", "equivalence", "()Lcom/example/patience/patience/equivalence/Equivalence;"⟩ : MethodName)) (z := (⟨"com/example/patience/patience/congruence/Format", "equivalence", "()Lcom/example/patience/patience/equivalence/Equivalence;"⟩ : MethodName)) (C := "com/example/patience/patience/congruence/Format") (a := (A 6)) X41 hx hZ hown E41 (w15 hw) (w16 hw) (w18 hw) (w17 hw) (w6 hw) (w19 hw) (notFace_of_selects (args := #[]) (mvT hZ (w18 hw))) (by decide) (EE.2.2.2.2.2.2.1.ext O0.2) (argsL := []) (rest := []) (W := 0) (rm_equivalence l Z a0 hw [] (A 6) (B 6) h0 n0 Z0 (QE.2.2.2.2.2.2.1.ext O0.2)) rfl (lenOf pd4 rfl) rfl (by rw [hml]; rfl) rfl (by show 2 * 0 + _ ≤ _; exact Nat.le_of_eq rfl) (by decide) (by decide) (by decide) (by decide) (hb hby at_19) ?_
    intro v42 T42 h42 L42 X42 e42 q42
    obtain ⟨hv42, Nf42, hh42⟩ := q42
    subst hv42
    have E42 : T42.heap = h0 := e42.trans hh42
    have N42 := Fr.app N41 Nf42
    show Go p.tables e below _ T42 (mkF m 22 #[.val (.int x0), .val (.int (6 : Int32)), .val (.ref (A 6)), .val (.int (1 : Int32)), .unset, .unset, .unset] [(.ref (B 6))])
    refine Go.st (T' := T42) (g' := (mkF m 24 #[.val (.int x0), .val (.int (6 : Int32)), .val (.ref (A 6)), .val (.int (1 : Int32)), .val (.ref (B 6)), .unset, .unset] [])) (fun _ k => XS.astore X42.here hx rfl (hb hby at_22) rfl rfl (l' := #[.val (.int x0), .val (.int (6 : Int32)), .val (.ref (A 6)), .val (.int (1 : Int32)), .val (.ref (B 6)), .unset, .unset]) rfl k) ?_
    refine Go.st (T' := T42) (g' := (mkF m 26 #[.val (.int x0), .val (.int (6 : Int32)), .val (.ref (A 6)), .val (.int (1 : Int32)), .val (.ref (B 6)), .unset, .unset] [(.ref (B 6))])) (fun _ k => XS.aload X42.here hx rfl (hb hby at_24) rfl rfl k) ?_
    obtain ⟨T43, X43, e43, st43⟩ := getS2 X42 hx hZ hown (host := "") (Or.inl (w24 hw)) Via.refl E42 (ES.1.ext O0.2) (g := (mkF m 26 #[.val (.int x0), .val (.int (6 : Int32)), .val (.ref (A 6)), .val (.int (1 : Int32)), .val (.ref (B 6)), .unset, .unset] [(.ref (B 6))])) rfl (hb hby at_26)
    refine Go.st (T' := T43) (g' := (mkF m 29 #[.val (.int x0), .val (.int (6 : Int32)), .val (.ref (A 6)), .val (.int (1 : Int32)), .val (.ref (B 6)), .unset, .unset] [(.ref (B 5)), (.ref (B 6))])) (fun _ k => st43 _ k) ?_
    refine Go.st (T' := T43) (g' := (mkF m 32 #[.val (.int x0), .val (.int (6 : Int32)), .val (.ref (A 6)), .val (.int (1 : Int32)), .val (.ref (B 6)), .unset, .unset] [])) (fun _ k => Jvm.RoadKit.acmp (g := (mkF m 29 #[.val (.int x0), .val (.int (6 : Int32)), .val (.ref (A 6)), .val (.int (1 : Int32)), .val (.ref (B 6)), .unset, .unset] [(.ref (B 5)), (.ref (B 6))])) X43 hx rfl rfl rfl (pc0 := 29) (pc' := 32) (same := false) rfl (hb hby at_29) rfl (decide_eq_false fun q => absurd (Value.ref.inj q) (Fld.ne OR.2.2.2.2.2.2.1 OR.2.2.2.2.2.1 (by simp))) (by decide) (by decide) k) ?_
    refine Go.st (T' := T43) (g' := (mkF m 34 #[.val (.int x0), .val (.int (6 : Int32)), .val (.ref (A 6)), .val (.int (1 : Int32)), .val (.ref (B 6)), .unset, .unset] [(.ref (B 6))])) (fun _ k => XS.aload X43.here hx rfl (hb hby at_32) rfl rfl k) ?_
    obtain ⟨T44, X44, e44, st44⟩ := getS2 X43 hx hZ hown (host := "") (Or.inl (w26 hw)) Via.refl e43 (ES.2.1.ext O0.2) (g := (mkF m 34 #[.val (.int x0), .val (.int (6 : Int32)), .val (.ref (A 6)), .val (.int (1 : Int32)), .val (.ref (B 6)), .unset, .unset] [(.ref (B 6))])) rfl (hb hby at_34)
    refine Go.st (T' := T44) (g' := (mkF m 37 #[.val (.int x0), .val (.int (6 : Int32)), .val (.ref (A 6)), .val (.int (1 : Int32)), .val (.ref (B 6)), .unset, .unset] [(.ref (B 6)), (.ref (B 6))])) (fun _ k => st44 _ k) ?_
    refine Go.st (T' := T44) (g' := (mkF m 56 #[.val (.int x0), .val (.int (6 : Int32)), .val (.ref (A 6)), .val (.int (1 : Int32)), .val (.ref (B 6)), .unset, .unset] [])) (fun _ k => Jvm.RoadKit.acmp (g := (mkF m 37 #[.val (.int x0), .val (.int (6 : Int32)), .val (.ref (A 6)), .val (.int (1 : Int32)), .val (.ref (B 6)), .unset, .unset] [(.ref (B 6)), (.ref (B 6))])) X44 hx rfl rfl rfl (pc0 := 37) (pc' := 56) (same := true) rfl (hb hby at_37) rfl (decide_eq_true rfl) (by decide) (by decide) k) ?_
    refine Go.st (T' := T44) (g' := (mkF m 57 #[.val (.int x0), .val (.int (6 : Int32)), .val (.ref (A 6)), .val (.int (1 : Int32)), .val (.ref (B 6)), .unset, .unset] [(.int (1 : Int32))])) (fun _ k => XS.iconst X44.here hx rfl (hb hby at_56) k) ?_
    refine Go.st (T' := T44) (g' := (mkF m 61 #[.val (.int x0), .val (.int (6 : Int32)), .val (.ref (A 6)), .val (.int (1 : Int32)), .val (.ref (B 6)), .unset, .unset] [(.int (1 : Int32))])) (fun _ k => XS.goto X44.here hx rfl (pc0 := 57) (pc' := 61) rfl (hb hby at_57) (by decide) (by decide) k) ?_
    refine Go.st (T' := T44) (g' := (mkF m 63 #[.val (.int x0), .val (.int (6 : Int32)), .val (.ref (A 6)), .val (.int (1 : Int32)), .val (.ref (B 6)), .val (.int (1 : Int32)), .unset] [])) (fun _ k => XS.istore X44.here hx rfl (hb hby at_61) rfl (l' := #[.val (.int x0), .val (.int (6 : Int32)), .val (.ref (A 6)), .val (.int (1 : Int32)), .val (.ref (B 6)), .val (.int (1 : Int32)), .unset]) rfl k) ?_
    refine Go.st (T' := T44) (g' := (mkF m 64 #[.val (.int x0), .val (.int (6 : Int32)), .val (.ref (A 6)), .val (.int (1 : Int32)), .val (.ref (B 6)), .val (.int (1 : Int32)), .unset] [(.int (6 : Int32))])) (fun _ k => XS.iloadN X44.here hx rfl (hb hby at_63) rfl k) ?_
    refine Go.st (T' := T44) (g' := (mkF m 65 #[.val (.int x0), .val (.int (6 : Int32)), .val (.ref (A 6)), .val (.int (1 : Int32)), .val (.ref (B 6)), .val (.int (1 : Int32)), .unset] [(.int (5 : Int32)), (.int (6 : Int32))])) (fun _ k => XS.iconst X44.here hx rfl (hb hby at_64) k) ?_
    refine Go.st (T' := T44) (g' := (mkF m 68 #[.val (.int x0), .val (.int (6 : Int32)), .val (.ref (A 6)), .val (.int (1 : Int32)), .val (.ref (B 6)), .val (.int (1 : Int32)), .unset] [])) (fun _ k => XS.icmpNo X44.here hx rfl (hb hby at_65) rfl (flt ((by decide) : ¬ ((6 : Int32) < (5 : Int32)))).1 k) ?_
    refine Go.st (T' := T44) (g' := (mkF m 69 #[.val (.int x0), .val (.int (6 : Int32)), .val (.ref (A 6)), .val (.int (1 : Int32)), .val (.ref (B 6)), .val (.int (1 : Int32)), .unset] [(.int (1 : Int32))])) (fun _ k => XS.iconst X44.here hx rfl (hb hby at_68) k) ?_
    refine Go.st (T' := T44) (g' := (mkF m 73 #[.val (.int x0), .val (.int (6 : Int32)), .val (.ref (A 6)), .val (.int (1 : Int32)), .val (.ref (B 6)), .val (.int (1 : Int32)), .unset] [(.int (1 : Int32))])) (fun _ k => XS.goto X44.here hx rfl (pc0 := 69) (pc' := 73) rfl (hb hby at_69) (by decide) (by decide) k) ?_
    refine Go.st (T' := T44) (g' := (mkF m 75 #[.val (.int x0), .val (.int (6 : Int32)), .val (.ref (A 6)), .val (.int (1 : Int32)), .val (.ref (B 6)), .val (.int (1 : Int32)), .val (.int (1 : Int32))] [])) (fun _ k => XS.istore X44.here hx rfl (hb hby at_73) rfl (l' := #[.val (.int x0), .val (.int (6 : Int32)), .val (.ref (A 6)), .val (.int (1 : Int32)), .val (.ref (B 6)), .val (.int (1 : Int32)), .val (.int (1 : Int32))]) rfl k) ?_
    refine Go.st (T' := T44) (g' := (mkF m 76 #[.val (.int x0), .val (.int (6 : Int32)), .val (.ref (A 6)), .val (.int (1 : Int32)), .val (.ref (B 6)), .val (.int (1 : Int32)), .val (.int (1 : Int32))] [(.int (1 : Int32))])) (fun _ k => XS.iloadN X44.here hx rfl (hb hby at_75) rfl k) ?_
    refine Go.st (T' := T44) (g' := (mkF m 78 #[.val (.int x0), .val (.int (6 : Int32)), .val (.ref (A 6)), .val (.int (1 : Int32)), .val (.ref (B 6)), .val (.int (1 : Int32)), .val (.int (1 : Int32))] [(.int (1 : Int32)), (.int (1 : Int32))])) (fun _ k => XS.iload X44.here hx rfl (hb hby at_76) rfl k) ?_
    refine Go.st (T' := T44) (g' := (mkF m 81 #[.val (.int x0), .val (.int (6 : Int32)), .val (.ref (A 6)), .val (.int (1 : Int32)), .val (.ref (B 6)), .val (.int (1 : Int32)), .val (.int (1 : Int32))] [])) (fun _ k => XS.icmpNo X44.here hx rfl (hb hby at_78) rfl (teq ((by decide) : (1 : Int32) = (1 : Int32))).2 k) ?_
    refine Go.st (T' := T44) (g' := (mkF m 82 #[.val (.int x0), .val (.int (6 : Int32)), .val (.ref (A 6)), .val (.int (1 : Int32)), .val (.ref (B 6)), .val (.int (1 : Int32)), .val (.int (1 : Int32))] [(.int (1 : Int32))])) (fun _ k => XS.iloadN X44.here hx rfl (hb hby at_81) rfl k) ?_
    refine Go.st (T' := T44) (g' := (mkF m 84 #[.val (.int x0), .val (.int (6 : Int32)), .val (.ref (A 6)), .val (.int (1 : Int32)), .val (.ref (B 6)), .val (.int (1 : Int32)), .val (.int (1 : Int32))] [(.int (1 : Int32)), (.int (1 : Int32))])) (fun _ k => XS.iload X44.here hx rfl (hb hby at_82) rfl k) ?_
    refine Go.st (T' := T44) (g' := (mkF m 87 #[.val (.int x0), .val (.int (6 : Int32)), .val (.ref (A 6)), .val (.int (1 : Int32)), .val (.ref (B 6)), .val (.int (1 : Int32)), .val (.int (1 : Int32))] [])) (fun _ k => XS.icmpNo X44.here hx rfl (hb hby at_84) rfl (teq ((by decide) : (1 : Int32) = (1 : Int32))).2 k) ?_
    refine Go.st (T' := T44) (g' := (mkF m 88 #[.val (.int x0), .val (.int (6 : Int32)), .val (.ref (A 6)), .val (.int (1 : Int32)), .val (.ref (B 6)), .val (.int (1 : Int32)), .val (.int (1 : Int32))] [(.int (1 : Int32))])) (fun _ k => XS.iconst X44.here hx rfl (hb hby at_87) k) ?_
    refine Go.st (T' := T44) (g' := (mkF m 92 #[.val (.int x0), .val (.int (6 : Int32)), .val (.ref (A 6)), .val (.int (1 : Int32)), .val (.ref (B 6)), .val (.int (1 : Int32)), .val (.int (1 : Int32))] [(.int (1 : Int32))])) (fun _ k => XS.goto X44.here hx rfl (pc0 := 88) (pc' := 92) rfl (hb hby at_88) (by decide) (by decide) k) ?_
    refine Go.retN X44 hx hlk hret rfl (by simp) (hb hby at_92) (by decide) (by decide) e44 ?_
    exact ⟨rfl, N42⟩
  · refine Go.st (T' := s₁) (g' := (mkF m 8 #[.val (.int x0), .val (.int (7 : Int32)), .unset, .unset, .unset, .unset, .unset] [])) (fun _ k => XS.istoreN X0.here hx rfl (hb hby at_7) rfl (l' := #[.val (.int x0), .val (.int (7 : Int32)), .unset, .unset, .unset, .unset, .unset]) rfl k) ?_
    refine Go.st (T' := s₁) (g' := (mkF m 9 #[.val (.int x0), .val (.int (7 : Int32)), .unset, .unset, .unset, .unset, .unset] [(.int (7 : Int32))])) (fun _ k => XS.iloadN X0.here hx rfl (hb hby at_8) rfl k) ?_
    refine Go.callSt (y := (⟨"com/example/patience/patience/congruence/FormatIsRootedPinLaw", "pick", "(I)Lcom/example/patience/patience/congruence/Format;"⟩ : MethodName)) X0 hx hZ hown e0 (w1 hw) (w2 hw) (w3 hw) (w4 hw) (by decide) (argsL := [(.int (7 : Int32))]) (rest := []) (W := 0) (rm_pick l Z a0 hw [] (7 : Int32) (A 7) A h0 n0 Z0 O0 SS (Or.inr (Or.inr (Or.inr (Or.inr (Or.inr (Or.inr (Or.inr (Or.inl ⟨rfl, rfl⟩))))))))) rfl (lenOf pd2 rfl) rfl (by rw [hml]; rfl) rfl (by show 2 * 0 + _ ≤ _; exact Nat.le_of_eq rfl) (by decide) (by decide) (by decide) (by decide) (hb hby at_9) ?_
    intro v45 T45 h45 L45 X45 e45 q45
    obtain ⟨hv45, Nf45, hh45⟩ := q45
    subst hv45
    have E45 : T45.heap = h0 := e45.trans hh45
    have N45 := Fr.app N0 Nf45
    show Go p.tables e below _ T45 (mkF m 12 #[.val (.int x0), .val (.int (7 : Int32)), .unset, .unset, .unset, .unset, .unset] [(.ref (A 7))])
    refine Go.st (T' := T45) (g' := (mkF m 13 #[.val (.int x0), .val (.int (7 : Int32)), .val (.ref (A 7)), .unset, .unset, .unset, .unset] [])) (fun _ k => XS.astoreN X45.here hx rfl (hb hby at_12) rfl rfl (l' := #[.val (.int x0), .val (.int (7 : Int32)), .val (.ref (A 7)), .unset, .unset, .unset, .unset]) rfl k) ?_
    refine Go.st (T' := T45) (g' := (mkF m 14 #[.val (.int x0), .val (.int (7 : Int32)), .val (.ref (A 7)), .unset, .unset, .unset, .unset] [(.ref (A 7))])) (fun _ k => XS.aloadN X45.here hx rfl (hb hby at_13) rfl rfl k) ?_
    refine Go.callV (y := (⟨"com/example/patience/patience/congruence/Format", "isRooted", "()Z"⟩ : MethodName)) (z := (⟨"com/example/patience/patience/congruence/Format", "isRooted", "()Z"⟩ : MethodName)) (C := "com/example/patience/patience/congruence/Format") (a := (A 7)) X45 hx hZ hown E45 (w8 hw) (w9 hw) (w11 hw) (w10 hw) (w6 hw) (w12 hw) (notFace_of_selects (args := #[]) (mvT hZ (w11 hw))) (by decide) (EE.2.2.2.2.2.2.2.1.ext O0.2) (argsL := []) (rest := []) (W := 0) (rm_rootedR l Z a0 hw [] (A 7) (A 3) h0 n0 Z0 (TM.2.2.2.2.2.2.2.1.ext O0.2)) rfl (lenOf pd3 rfl) rfl (by rw [hml]; rfl) rfl (by show 2 * 0 + _ ≤ _; exact Nat.le_of_eq rfl) (by decide) (by decide) (by decide) (by decide) (hb hby at_14) ?_
    intro v46 T46 h46 L46 X46 e46 q46
    obtain ⟨hv46, Nf46, hh46⟩ := q46
    subst hv46
    have E46 : T46.heap = h0 := e46.trans hh46
    have N46 := Fr.app N45 Nf46
    show Go p.tables e below _ T46 (mkF m 17 #[.val (.int x0), .val (.int (7 : Int32)), .val (.ref (A 7)), .unset, .unset, .unset, .unset] [(.int (1 : Int32))])
    refine Go.st (T' := T46) (g' := (mkF m 18 #[.val (.int x0), .val (.int (7 : Int32)), .val (.ref (A 7)), .val (.int (1 : Int32)), .unset, .unset, .unset] [])) (fun _ k => XS.istoreN X46.here hx rfl (hb hby at_17) rfl (l' := #[.val (.int x0), .val (.int (7 : Int32)), .val (.ref (A 7)), .val (.int (1 : Int32)), .unset, .unset, .unset]) rfl k) ?_
    refine Go.st (T' := T46) (g' := (mkF m 19 #[.val (.int x0), .val (.int (7 : Int32)), .val (.ref (A 7)), .val (.int (1 : Int32)), .unset, .unset, .unset] [(.ref (A 7))])) (fun _ k => XS.aloadN X46.here hx rfl (hb hby at_18) rfl rfl k) ?_
    refine Go.callV (y := (⟨"com/example/patience/patience/congruence/Format", "equivalence", "()Lcom/example/patience/patience/equivalence/Equivalence;"⟩ : MethodName)) (z := (⟨"com/example/patience/patience/congruence/Format", "equivalence", "()Lcom/example/patience/patience/equivalence/Equivalence;"⟩ : MethodName)) (C := "com/example/patience/patience/congruence/Format") (a := (A 7)) X46 hx hZ hown E46 (w15 hw) (w16 hw) (w18 hw) (w17 hw) (w6 hw) (w19 hw) (notFace_of_selects (args := #[]) (mvT hZ (w18 hw))) (by decide) (EE.2.2.2.2.2.2.2.1.ext O0.2) (argsL := []) (rest := []) (W := 0) (rm_equivalence l Z a0 hw [] (A 7) (B 7) h0 n0 Z0 (QE.2.2.2.2.2.2.2.1.ext O0.2)) rfl (lenOf pd4 rfl) rfl (by rw [hml]; rfl) rfl (by show 2 * 0 + _ ≤ _; exact Nat.le_of_eq rfl) (by decide) (by decide) (by decide) (by decide) (hb hby at_19) ?_
    intro v47 T47 h47 L47 X47 e47 q47
    obtain ⟨hv47, Nf47, hh47⟩ := q47
    subst hv47
    have E47 : T47.heap = h0 := e47.trans hh47
    have N47 := Fr.app N46 Nf47
    show Go p.tables e below _ T47 (mkF m 22 #[.val (.int x0), .val (.int (7 : Int32)), .val (.ref (A 7)), .val (.int (1 : Int32)), .unset, .unset, .unset] [(.ref (B 7))])
    refine Go.st (T' := T47) (g' := (mkF m 24 #[.val (.int x0), .val (.int (7 : Int32)), .val (.ref (A 7)), .val (.int (1 : Int32)), .val (.ref (B 7)), .unset, .unset] [])) (fun _ k => XS.astore X47.here hx rfl (hb hby at_22) rfl rfl (l' := #[.val (.int x0), .val (.int (7 : Int32)), .val (.ref (A 7)), .val (.int (1 : Int32)), .val (.ref (B 7)), .unset, .unset]) rfl k) ?_
    refine Go.st (T' := T47) (g' := (mkF m 26 #[.val (.int x0), .val (.int (7 : Int32)), .val (.ref (A 7)), .val (.int (1 : Int32)), .val (.ref (B 7)), .unset, .unset] [(.ref (B 7))])) (fun _ k => XS.aload X47.here hx rfl (hb hby at_24) rfl rfl k) ?_
    obtain ⟨T48, X48, e48, st48⟩ := getS2 X47 hx hZ hown (host := "") (Or.inl (w24 hw)) Via.refl E47 (ES.1.ext O0.2) (g := (mkF m 26 #[.val (.int x0), .val (.int (7 : Int32)), .val (.ref (A 7)), .val (.int (1 : Int32)), .val (.ref (B 7)), .unset, .unset] [(.ref (B 7))])) rfl (hb hby at_26)
    refine Go.st (T' := T48) (g' := (mkF m 29 #[.val (.int x0), .val (.int (7 : Int32)), .val (.ref (A 7)), .val (.int (1 : Int32)), .val (.ref (B 7)), .unset, .unset] [(.ref (B 5)), (.ref (B 7))])) (fun _ k => st48 _ k) ?_
    refine Go.st (T' := T48) (g' := (mkF m 32 #[.val (.int x0), .val (.int (7 : Int32)), .val (.ref (A 7)), .val (.int (1 : Int32)), .val (.ref (B 7)), .unset, .unset] [])) (fun _ k => Jvm.RoadKit.acmp (g := (mkF m 29 #[.val (.int x0), .val (.int (7 : Int32)), .val (.ref (A 7)), .val (.int (1 : Int32)), .val (.ref (B 7)), .unset, .unset] [(.ref (B 5)), (.ref (B 7))])) X48 hx rfl rfl rfl (pc0 := 29) (pc' := 32) (same := false) rfl (hb hby at_29) rfl (decide_eq_false fun q => absurd (Value.ref.inj q) (Fld.ne OR.2.2.2.2.2.2.2.1 OR.2.2.2.2.2.1 (by simp))) (by decide) (by decide) k) ?_
    refine Go.st (T' := T48) (g' := (mkF m 34 #[.val (.int x0), .val (.int (7 : Int32)), .val (.ref (A 7)), .val (.int (1 : Int32)), .val (.ref (B 7)), .unset, .unset] [(.ref (B 7))])) (fun _ k => XS.aload X48.here hx rfl (hb hby at_32) rfl rfl k) ?_
    obtain ⟨T49, X49, e49, st49⟩ := getS2 X48 hx hZ hown (host := "") (Or.inl (w26 hw)) Via.refl e48 (ES.2.1.ext O0.2) (g := (mkF m 34 #[.val (.int x0), .val (.int (7 : Int32)), .val (.ref (A 7)), .val (.int (1 : Int32)), .val (.ref (B 7)), .unset, .unset] [(.ref (B 7))])) rfl (hb hby at_34)
    refine Go.st (T' := T49) (g' := (mkF m 37 #[.val (.int x0), .val (.int (7 : Int32)), .val (.ref (A 7)), .val (.int (1 : Int32)), .val (.ref (B 7)), .unset, .unset] [(.ref (B 6)), (.ref (B 7))])) (fun _ k => st49 _ k) ?_
    refine Go.st (T' := T49) (g' := (mkF m 40 #[.val (.int x0), .val (.int (7 : Int32)), .val (.ref (A 7)), .val (.int (1 : Int32)), .val (.ref (B 7)), .unset, .unset] [])) (fun _ k => Jvm.RoadKit.acmp (g := (mkF m 37 #[.val (.int x0), .val (.int (7 : Int32)), .val (.ref (A 7)), .val (.int (1 : Int32)), .val (.ref (B 7)), .unset, .unset] [(.ref (B 6)), (.ref (B 7))])) X49 hx rfl rfl rfl (pc0 := 37) (pc' := 40) (same := false) rfl (hb hby at_37) rfl (decide_eq_false fun q => absurd (Value.ref.inj q) (Fld.ne OR.2.2.2.2.2.2.2.1 OR.2.2.2.2.2.2.1 (by simp))) (by decide) (by decide) k) ?_
    refine Go.st (T' := T49) (g' := (mkF m 42 #[.val (.int x0), .val (.int (7 : Int32)), .val (.ref (A 7)), .val (.int (1 : Int32)), .val (.ref (B 7)), .unset, .unset] [(.ref (B 7))])) (fun _ k => XS.aload X49.here hx rfl (hb hby at_40) rfl rfl k) ?_
    obtain ⟨T50, X50, e50, st50⟩ := getS2 X49 hx hZ hown (host := "") (Or.inl (w28 hw)) Via.refl e49 (ES.2.2.1.ext O0.2) (g := (mkF m 42 #[.val (.int x0), .val (.int (7 : Int32)), .val (.ref (A 7)), .val (.int (1 : Int32)), .val (.ref (B 7)), .unset, .unset] [(.ref (B 7))])) rfl (hb hby at_42)
    refine Go.st (T' := T50) (g' := (mkF m 45 #[.val (.int x0), .val (.int (7 : Int32)), .val (.ref (A 7)), .val (.int (1 : Int32)), .val (.ref (B 7)), .unset, .unset] [(.ref (B 7)), (.ref (B 7))])) (fun _ k => st50 _ k) ?_
    refine Go.st (T' := T50) (g' := (mkF m 56 #[.val (.int x0), .val (.int (7 : Int32)), .val (.ref (A 7)), .val (.int (1 : Int32)), .val (.ref (B 7)), .unset, .unset] [])) (fun _ k => Jvm.RoadKit.acmp (g := (mkF m 45 #[.val (.int x0), .val (.int (7 : Int32)), .val (.ref (A 7)), .val (.int (1 : Int32)), .val (.ref (B 7)), .unset, .unset] [(.ref (B 7)), (.ref (B 7))])) X50 hx rfl rfl rfl (pc0 := 45) (pc' := 56) (same := true) rfl (hb hby at_45) rfl (decide_eq_true rfl) (by decide) (by decide) k) ?_
    refine Go.st (T' := T50) (g' := (mkF m 57 #[.val (.int x0), .val (.int (7 : Int32)), .val (.ref (A 7)), .val (.int (1 : Int32)), .val (.ref (B 7)), .unset, .unset] [(.int (1 : Int32))])) (fun _ k => XS.iconst X50.here hx rfl (hb hby at_56) k) ?_
    refine Go.st (T' := T50) (g' := (mkF m 61 #[.val (.int x0), .val (.int (7 : Int32)), .val (.ref (A 7)), .val (.int (1 : Int32)), .val (.ref (B 7)), .unset, .unset] [(.int (1 : Int32))])) (fun _ k => XS.goto X50.here hx rfl (pc0 := 57) (pc' := 61) rfl (hb hby at_57) (by decide) (by decide) k) ?_
    refine Go.st (T' := T50) (g' := (mkF m 63 #[.val (.int x0), .val (.int (7 : Int32)), .val (.ref (A 7)), .val (.int (1 : Int32)), .val (.ref (B 7)), .val (.int (1 : Int32)), .unset] [])) (fun _ k => XS.istore X50.here hx rfl (hb hby at_61) rfl (l' := #[.val (.int x0), .val (.int (7 : Int32)), .val (.ref (A 7)), .val (.int (1 : Int32)), .val (.ref (B 7)), .val (.int (1 : Int32)), .unset]) rfl k) ?_
    refine Go.st (T' := T50) (g' := (mkF m 64 #[.val (.int x0), .val (.int (7 : Int32)), .val (.ref (A 7)), .val (.int (1 : Int32)), .val (.ref (B 7)), .val (.int (1 : Int32)), .unset] [(.int (7 : Int32))])) (fun _ k => XS.iloadN X50.here hx rfl (hb hby at_63) rfl k) ?_
    refine Go.st (T' := T50) (g' := (mkF m 65 #[.val (.int x0), .val (.int (7 : Int32)), .val (.ref (A 7)), .val (.int (1 : Int32)), .val (.ref (B 7)), .val (.int (1 : Int32)), .unset] [(.int (5 : Int32)), (.int (7 : Int32))])) (fun _ k => XS.iconst X50.here hx rfl (hb hby at_64) k) ?_
    refine Go.st (T' := T50) (g' := (mkF m 68 #[.val (.int x0), .val (.int (7 : Int32)), .val (.ref (A 7)), .val (.int (1 : Int32)), .val (.ref (B 7)), .val (.int (1 : Int32)), .unset] [])) (fun _ k => XS.icmpNo X50.here hx rfl (hb hby at_65) rfl (flt ((by decide) : ¬ ((7 : Int32) < (5 : Int32)))).1 k) ?_
    refine Go.st (T' := T50) (g' := (mkF m 69 #[.val (.int x0), .val (.int (7 : Int32)), .val (.ref (A 7)), .val (.int (1 : Int32)), .val (.ref (B 7)), .val (.int (1 : Int32)), .unset] [(.int (1 : Int32))])) (fun _ k => XS.iconst X50.here hx rfl (hb hby at_68) k) ?_
    refine Go.st (T' := T50) (g' := (mkF m 73 #[.val (.int x0), .val (.int (7 : Int32)), .val (.ref (A 7)), .val (.int (1 : Int32)), .val (.ref (B 7)), .val (.int (1 : Int32)), .unset] [(.int (1 : Int32))])) (fun _ k => XS.goto X50.here hx rfl (pc0 := 69) (pc' := 73) rfl (hb hby at_69) (by decide) (by decide) k) ?_
    refine Go.st (T' := T50) (g' := (mkF m 75 #[.val (.int x0), .val (.int (7 : Int32)), .val (.ref (A 7)), .val (.int (1 : Int32)), .val (.ref (B 7)), .val (.int (1 : Int32)), .val (.int (1 : Int32))] [])) (fun _ k => XS.istore X50.here hx rfl (hb hby at_73) rfl (l' := #[.val (.int x0), .val (.int (7 : Int32)), .val (.ref (A 7)), .val (.int (1 : Int32)), .val (.ref (B 7)), .val (.int (1 : Int32)), .val (.int (1 : Int32))]) rfl k) ?_
    refine Go.st (T' := T50) (g' := (mkF m 76 #[.val (.int x0), .val (.int (7 : Int32)), .val (.ref (A 7)), .val (.int (1 : Int32)), .val (.ref (B 7)), .val (.int (1 : Int32)), .val (.int (1 : Int32))] [(.int (1 : Int32))])) (fun _ k => XS.iloadN X50.here hx rfl (hb hby at_75) rfl k) ?_
    refine Go.st (T' := T50) (g' := (mkF m 78 #[.val (.int x0), .val (.int (7 : Int32)), .val (.ref (A 7)), .val (.int (1 : Int32)), .val (.ref (B 7)), .val (.int (1 : Int32)), .val (.int (1 : Int32))] [(.int (1 : Int32)), (.int (1 : Int32))])) (fun _ k => XS.iload X50.here hx rfl (hb hby at_76) rfl k) ?_
    refine Go.st (T' := T50) (g' := (mkF m 81 #[.val (.int x0), .val (.int (7 : Int32)), .val (.ref (A 7)), .val (.int (1 : Int32)), .val (.ref (B 7)), .val (.int (1 : Int32)), .val (.int (1 : Int32))] [])) (fun _ k => XS.icmpNo X50.here hx rfl (hb hby at_78) rfl (teq ((by decide) : (1 : Int32) = (1 : Int32))).2 k) ?_
    refine Go.st (T' := T50) (g' := (mkF m 82 #[.val (.int x0), .val (.int (7 : Int32)), .val (.ref (A 7)), .val (.int (1 : Int32)), .val (.ref (B 7)), .val (.int (1 : Int32)), .val (.int (1 : Int32))] [(.int (1 : Int32))])) (fun _ k => XS.iloadN X50.here hx rfl (hb hby at_81) rfl k) ?_
    refine Go.st (T' := T50) (g' := (mkF m 84 #[.val (.int x0), .val (.int (7 : Int32)), .val (.ref (A 7)), .val (.int (1 : Int32)), .val (.ref (B 7)), .val (.int (1 : Int32)), .val (.int (1 : Int32))] [(.int (1 : Int32)), (.int (1 : Int32))])) (fun _ k => XS.iload X50.here hx rfl (hb hby at_82) rfl k) ?_
    refine Go.st (T' := T50) (g' := (mkF m 87 #[.val (.int x0), .val (.int (7 : Int32)), .val (.ref (A 7)), .val (.int (1 : Int32)), .val (.ref (B 7)), .val (.int (1 : Int32)), .val (.int (1 : Int32))] [])) (fun _ k => XS.icmpNo X50.here hx rfl (hb hby at_84) rfl (teq ((by decide) : (1 : Int32) = (1 : Int32))).2 k) ?_
    refine Go.st (T' := T50) (g' := (mkF m 88 #[.val (.int x0), .val (.int (7 : Int32)), .val (.ref (A 7)), .val (.int (1 : Int32)), .val (.ref (B 7)), .val (.int (1 : Int32)), .val (.int (1 : Int32))] [(.int (1 : Int32))])) (fun _ k => XS.iconst X50.here hx rfl (hb hby at_87) k) ?_
    refine Go.st (T' := T50) (g' := (mkF m 92 #[.val (.int x0), .val (.int (7 : Int32)), .val (.ref (A 7)), .val (.int (1 : Int32)), .val (.ref (B 7)), .val (.int (1 : Int32)), .val (.int (1 : Int32))] [(.int (1 : Int32))])) (fun _ k => XS.goto X50.here hx rfl (pc0 := 88) (pc' := 92) rfl (hb hby at_88) (by decide) (by decide) k) ?_
    refine Go.retN X50 hx hlk hret rfl (by simp) (hb hby at_92) (by decide) (by decide) e50 ?_
    exact ⟨rfl, N47⟩
  · refine Go.st (T' := s₁) (g' := (mkF m 8 #[.val (.int x0), .val (.int (8 : Int32)), .unset, .unset, .unset, .unset, .unset] [])) (fun _ k => XS.istoreN X0.here hx rfl (hb hby at_7) rfl (l' := #[.val (.int x0), .val (.int (8 : Int32)), .unset, .unset, .unset, .unset, .unset]) rfl k) ?_
    refine Go.st (T' := s₁) (g' := (mkF m 9 #[.val (.int x0), .val (.int (8 : Int32)), .unset, .unset, .unset, .unset, .unset] [(.int (8 : Int32))])) (fun _ k => XS.iloadN X0.here hx rfl (hb hby at_8) rfl k) ?_
    refine Go.callSt (y := (⟨"com/example/patience/patience/congruence/FormatIsRootedPinLaw", "pick", "(I)Lcom/example/patience/patience/congruence/Format;"⟩ : MethodName)) X0 hx hZ hown e0 (w1 hw) (w2 hw) (w3 hw) (w4 hw) (by decide) (argsL := [(.int (8 : Int32))]) (rest := []) (W := 0) (rm_pick l Z a0 hw [] (8 : Int32) (A 8) A h0 n0 Z0 O0 SS (Or.inr (Or.inr (Or.inr (Or.inr (Or.inr (Or.inr (Or.inr (Or.inr ⟨rfl, rfl⟩))))))))) rfl (lenOf pd2 rfl) rfl (by rw [hml]; rfl) rfl (by show 2 * 0 + _ ≤ _; exact Nat.le_of_eq rfl) (by decide) (by decide) (by decide) (by decide) (hb hby at_9) ?_
    intro v51 T51 h51 L51 X51 e51 q51
    obtain ⟨hv51, Nf51, hh51⟩ := q51
    subst hv51
    have E51 : T51.heap = h0 := e51.trans hh51
    have N51 := Fr.app N0 Nf51
    show Go p.tables e below _ T51 (mkF m 12 #[.val (.int x0), .val (.int (8 : Int32)), .unset, .unset, .unset, .unset, .unset] [(.ref (A 8))])
    refine Go.st (T' := T51) (g' := (mkF m 13 #[.val (.int x0), .val (.int (8 : Int32)), .val (.ref (A 8)), .unset, .unset, .unset, .unset] [])) (fun _ k => XS.astoreN X51.here hx rfl (hb hby at_12) rfl rfl (l' := #[.val (.int x0), .val (.int (8 : Int32)), .val (.ref (A 8)), .unset, .unset, .unset, .unset]) rfl k) ?_
    refine Go.st (T' := T51) (g' := (mkF m 14 #[.val (.int x0), .val (.int (8 : Int32)), .val (.ref (A 8)), .unset, .unset, .unset, .unset] [(.ref (A 8))])) (fun _ k => XS.aloadN X51.here hx rfl (hb hby at_13) rfl rfl k) ?_
    refine Go.callV (y := (⟨"com/example/patience/patience/congruence/Format", "isRooted", "()Z"⟩ : MethodName)) (z := (⟨"com/example/patience/patience/congruence/Format", "isRooted", "()Z"⟩ : MethodName)) (C := "com/example/patience/patience/congruence/Format") (a := (A 8)) X51 hx hZ hown E51 (w8 hw) (w9 hw) (w11 hw) (w10 hw) (w6 hw) (w12 hw) (notFace_of_selects (args := #[]) (mvT hZ (w11 hw))) (by decide) (EE.2.2.2.2.2.2.2.2.ext O0.2) (argsL := []) (rest := []) (W := 0) (rm_rootedR l Z a0 hw [] (A 8) (A 4) h0 n0 Z0 (TM.2.2.2.2.2.2.2.2.ext O0.2)) rfl (lenOf pd3 rfl) rfl (by rw [hml]; rfl) rfl (by show 2 * 0 + _ ≤ _; exact Nat.le_of_eq rfl) (by decide) (by decide) (by decide) (by decide) (hb hby at_14) ?_
    intro v52 T52 h52 L52 X52 e52 q52
    obtain ⟨hv52, Nf52, hh52⟩ := q52
    subst hv52
    have E52 : T52.heap = h0 := e52.trans hh52
    have N52 := Fr.app N51 Nf52
    show Go p.tables e below _ T52 (mkF m 17 #[.val (.int x0), .val (.int (8 : Int32)), .val (.ref (A 8)), .unset, .unset, .unset, .unset] [(.int (1 : Int32))])
    refine Go.st (T' := T52) (g' := (mkF m 18 #[.val (.int x0), .val (.int (8 : Int32)), .val (.ref (A 8)), .val (.int (1 : Int32)), .unset, .unset, .unset] [])) (fun _ k => XS.istoreN X52.here hx rfl (hb hby at_17) rfl (l' := #[.val (.int x0), .val (.int (8 : Int32)), .val (.ref (A 8)), .val (.int (1 : Int32)), .unset, .unset, .unset]) rfl k) ?_
    refine Go.st (T' := T52) (g' := (mkF m 19 #[.val (.int x0), .val (.int (8 : Int32)), .val (.ref (A 8)), .val (.int (1 : Int32)), .unset, .unset, .unset] [(.ref (A 8))])) (fun _ k => XS.aloadN X52.here hx rfl (hb hby at_18) rfl rfl k) ?_
    refine Go.callV (y := (⟨"com/example/patience/patience/congruence/Format", "equivalence", "()Lcom/example/patience/patience/equivalence/Equivalence;"⟩ : MethodName)) (z := (⟨"com/example/patience/patience/congruence/Format", "equivalence", "()Lcom/example/patience/patience/equivalence/Equivalence;"⟩ : MethodName)) (C := "com/example/patience/patience/congruence/Format") (a := (A 8)) X52 hx hZ hown E52 (w15 hw) (w16 hw) (w18 hw) (w17 hw) (w6 hw) (w19 hw) (notFace_of_selects (args := #[]) (mvT hZ (w18 hw))) (by decide) (EE.2.2.2.2.2.2.2.2.ext O0.2) (argsL := []) (rest := []) (W := 0) (rm_equivalence l Z a0 hw [] (A 8) (B 8) h0 n0 Z0 (QE.2.2.2.2.2.2.2.2.ext O0.2)) rfl (lenOf pd4 rfl) rfl (by rw [hml]; rfl) rfl (by show 2 * 0 + _ ≤ _; exact Nat.le_of_eq rfl) (by decide) (by decide) (by decide) (by decide) (hb hby at_19) ?_
    intro v53 T53 h53 L53 X53 e53 q53
    obtain ⟨hv53, Nf53, hh53⟩ := q53
    subst hv53
    have E53 : T53.heap = h0 := e53.trans hh53
    have N53 := Fr.app N52 Nf53
    show Go p.tables e below _ T53 (mkF m 22 #[.val (.int x0), .val (.int (8 : Int32)), .val (.ref (A 8)), .val (.int (1 : Int32)), .unset, .unset, .unset] [(.ref (B 8))])
    refine Go.st (T' := T53) (g' := (mkF m 24 #[.val (.int x0), .val (.int (8 : Int32)), .val (.ref (A 8)), .val (.int (1 : Int32)), .val (.ref (B 8)), .unset, .unset] [])) (fun _ k => XS.astore X53.here hx rfl (hb hby at_22) rfl rfl (l' := #[.val (.int x0), .val (.int (8 : Int32)), .val (.ref (A 8)), .val (.int (1 : Int32)), .val (.ref (B 8)), .unset, .unset]) rfl k) ?_
    refine Go.st (T' := T53) (g' := (mkF m 26 #[.val (.int x0), .val (.int (8 : Int32)), .val (.ref (A 8)), .val (.int (1 : Int32)), .val (.ref (B 8)), .unset, .unset] [(.ref (B 8))])) (fun _ k => XS.aload X53.here hx rfl (hb hby at_24) rfl rfl k) ?_
    obtain ⟨T54, X54, e54, st54⟩ := getS2 X53 hx hZ hown (host := "") (Or.inl (w24 hw)) Via.refl E53 (ES.1.ext O0.2) (g := (mkF m 26 #[.val (.int x0), .val (.int (8 : Int32)), .val (.ref (A 8)), .val (.int (1 : Int32)), .val (.ref (B 8)), .unset, .unset] [(.ref (B 8))])) rfl (hb hby at_26)
    refine Go.st (T' := T54) (g' := (mkF m 29 #[.val (.int x0), .val (.int (8 : Int32)), .val (.ref (A 8)), .val (.int (1 : Int32)), .val (.ref (B 8)), .unset, .unset] [(.ref (B 5)), (.ref (B 8))])) (fun _ k => st54 _ k) ?_
    refine Go.st (T' := T54) (g' := (mkF m 32 #[.val (.int x0), .val (.int (8 : Int32)), .val (.ref (A 8)), .val (.int (1 : Int32)), .val (.ref (B 8)), .unset, .unset] [])) (fun _ k => Jvm.RoadKit.acmp (g := (mkF m 29 #[.val (.int x0), .val (.int (8 : Int32)), .val (.ref (A 8)), .val (.int (1 : Int32)), .val (.ref (B 8)), .unset, .unset] [(.ref (B 5)), (.ref (B 8))])) X54 hx rfl rfl rfl (pc0 := 29) (pc' := 32) (same := false) rfl (hb hby at_29) rfl (decide_eq_false fun q => absurd (Value.ref.inj q) (Fld.ne OR.2.2.2.2.2.2.2.2 OR.2.2.2.2.2.1 (by simp))) (by decide) (by decide) k) ?_
    refine Go.st (T' := T54) (g' := (mkF m 34 #[.val (.int x0), .val (.int (8 : Int32)), .val (.ref (A 8)), .val (.int (1 : Int32)), .val (.ref (B 8)), .unset, .unset] [(.ref (B 8))])) (fun _ k => XS.aload X54.here hx rfl (hb hby at_32) rfl rfl k) ?_
    obtain ⟨T55, X55, e55, st55⟩ := getS2 X54 hx hZ hown (host := "") (Or.inl (w26 hw)) Via.refl e54 (ES.2.1.ext O0.2) (g := (mkF m 34 #[.val (.int x0), .val (.int (8 : Int32)), .val (.ref (A 8)), .val (.int (1 : Int32)), .val (.ref (B 8)), .unset, .unset] [(.ref (B 8))])) rfl (hb hby at_34)
    refine Go.st (T' := T55) (g' := (mkF m 37 #[.val (.int x0), .val (.int (8 : Int32)), .val (.ref (A 8)), .val (.int (1 : Int32)), .val (.ref (B 8)), .unset, .unset] [(.ref (B 6)), (.ref (B 8))])) (fun _ k => st55 _ k) ?_
    refine Go.st (T' := T55) (g' := (mkF m 40 #[.val (.int x0), .val (.int (8 : Int32)), .val (.ref (A 8)), .val (.int (1 : Int32)), .val (.ref (B 8)), .unset, .unset] [])) (fun _ k => Jvm.RoadKit.acmp (g := (mkF m 37 #[.val (.int x0), .val (.int (8 : Int32)), .val (.ref (A 8)), .val (.int (1 : Int32)), .val (.ref (B 8)), .unset, .unset] [(.ref (B 6)), (.ref (B 8))])) X55 hx rfl rfl rfl (pc0 := 37) (pc' := 40) (same := false) rfl (hb hby at_37) rfl (decide_eq_false fun q => absurd (Value.ref.inj q) (Fld.ne OR.2.2.2.2.2.2.2.2 OR.2.2.2.2.2.2.1 (by simp))) (by decide) (by decide) k) ?_
    refine Go.st (T' := T55) (g' := (mkF m 42 #[.val (.int x0), .val (.int (8 : Int32)), .val (.ref (A 8)), .val (.int (1 : Int32)), .val (.ref (B 8)), .unset, .unset] [(.ref (B 8))])) (fun _ k => XS.aload X55.here hx rfl (hb hby at_40) rfl rfl k) ?_
    obtain ⟨T56, X56, e56, st56⟩ := getS2 X55 hx hZ hown (host := "") (Or.inl (w28 hw)) Via.refl e55 (ES.2.2.1.ext O0.2) (g := (mkF m 42 #[.val (.int x0), .val (.int (8 : Int32)), .val (.ref (A 8)), .val (.int (1 : Int32)), .val (.ref (B 8)), .unset, .unset] [(.ref (B 8))])) rfl (hb hby at_42)
    refine Go.st (T' := T56) (g' := (mkF m 45 #[.val (.int x0), .val (.int (8 : Int32)), .val (.ref (A 8)), .val (.int (1 : Int32)), .val (.ref (B 8)), .unset, .unset] [(.ref (B 7)), (.ref (B 8))])) (fun _ k => st56 _ k) ?_
    refine Go.st (T' := T56) (g' := (mkF m 48 #[.val (.int x0), .val (.int (8 : Int32)), .val (.ref (A 8)), .val (.int (1 : Int32)), .val (.ref (B 8)), .unset, .unset] [])) (fun _ k => Jvm.RoadKit.acmp (g := (mkF m 45 #[.val (.int x0), .val (.int (8 : Int32)), .val (.ref (A 8)), .val (.int (1 : Int32)), .val (.ref (B 8)), .unset, .unset] [(.ref (B 7)), (.ref (B 8))])) X56 hx rfl rfl rfl (pc0 := 45) (pc' := 48) (same := false) rfl (hb hby at_45) rfl (decide_eq_false fun q => absurd (Value.ref.inj q) (Fld.ne OR.2.2.2.2.2.2.2.2 OR.2.2.2.2.2.2.2.1 (by simp))) (by decide) (by decide) k) ?_
    refine Go.st (T' := T56) (g' := (mkF m 50 #[.val (.int x0), .val (.int (8 : Int32)), .val (.ref (A 8)), .val (.int (1 : Int32)), .val (.ref (B 8)), .unset, .unset] [(.ref (B 8))])) (fun _ k => XS.aload X56.here hx rfl (hb hby at_48) rfl rfl k) ?_
    obtain ⟨T57, X57, e57, st57⟩ := getS2 X56 hx hZ hown (host := "") (Or.inl (w30 hw)) Via.refl e56 (ES.2.2.2.ext O0.2) (g := (mkF m 50 #[.val (.int x0), .val (.int (8 : Int32)), .val (.ref (A 8)), .val (.int (1 : Int32)), .val (.ref (B 8)), .unset, .unset] [(.ref (B 8))])) rfl (hb hby at_50)
    refine Go.st (T' := T57) (g' := (mkF m 53 #[.val (.int x0), .val (.int (8 : Int32)), .val (.ref (A 8)), .val (.int (1 : Int32)), .val (.ref (B 8)), .unset, .unset] [(.ref (B 8)), (.ref (B 8))])) (fun _ k => st57 _ k) ?_
    refine Go.st (T' := T57) (g' := (mkF m 56 #[.val (.int x0), .val (.int (8 : Int32)), .val (.ref (A 8)), .val (.int (1 : Int32)), .val (.ref (B 8)), .unset, .unset] [])) (fun _ k => Jvm.RoadKit.acmp (g := (mkF m 53 #[.val (.int x0), .val (.int (8 : Int32)), .val (.ref (A 8)), .val (.int (1 : Int32)), .val (.ref (B 8)), .unset, .unset] [(.ref (B 8)), (.ref (B 8))])) X57 hx rfl rfl rfl (pc0 := 53) (pc' := 56) (same := true) rfl (hb hby at_53) rfl (decide_eq_true rfl) (by decide) (by decide) k) ?_
    refine Go.st (T' := T57) (g' := (mkF m 57 #[.val (.int x0), .val (.int (8 : Int32)), .val (.ref (A 8)), .val (.int (1 : Int32)), .val (.ref (B 8)), .unset, .unset] [(.int (1 : Int32))])) (fun _ k => XS.iconst X57.here hx rfl (hb hby at_56) k) ?_
    refine Go.st (T' := T57) (g' := (mkF m 61 #[.val (.int x0), .val (.int (8 : Int32)), .val (.ref (A 8)), .val (.int (1 : Int32)), .val (.ref (B 8)), .unset, .unset] [(.int (1 : Int32))])) (fun _ k => XS.goto X57.here hx rfl (pc0 := 57) (pc' := 61) rfl (hb hby at_57) (by decide) (by decide) k) ?_
    refine Go.st (T' := T57) (g' := (mkF m 63 #[.val (.int x0), .val (.int (8 : Int32)), .val (.ref (A 8)), .val (.int (1 : Int32)), .val (.ref (B 8)), .val (.int (1 : Int32)), .unset] [])) (fun _ k => XS.istore X57.here hx rfl (hb hby at_61) rfl (l' := #[.val (.int x0), .val (.int (8 : Int32)), .val (.ref (A 8)), .val (.int (1 : Int32)), .val (.ref (B 8)), .val (.int (1 : Int32)), .unset]) rfl k) ?_
    refine Go.st (T' := T57) (g' := (mkF m 64 #[.val (.int x0), .val (.int (8 : Int32)), .val (.ref (A 8)), .val (.int (1 : Int32)), .val (.ref (B 8)), .val (.int (1 : Int32)), .unset] [(.int (8 : Int32))])) (fun _ k => XS.iloadN X57.here hx rfl (hb hby at_63) rfl k) ?_
    refine Go.st (T' := T57) (g' := (mkF m 65 #[.val (.int x0), .val (.int (8 : Int32)), .val (.ref (A 8)), .val (.int (1 : Int32)), .val (.ref (B 8)), .val (.int (1 : Int32)), .unset] [(.int (5 : Int32)), (.int (8 : Int32))])) (fun _ k => XS.iconst X57.here hx rfl (hb hby at_64) k) ?_
    refine Go.st (T' := T57) (g' := (mkF m 68 #[.val (.int x0), .val (.int (8 : Int32)), .val (.ref (A 8)), .val (.int (1 : Int32)), .val (.ref (B 8)), .val (.int (1 : Int32)), .unset] [])) (fun _ k => XS.icmpNo X57.here hx rfl (hb hby at_65) rfl (flt ((by decide) : ¬ ((8 : Int32) < (5 : Int32)))).1 k) ?_
    refine Go.st (T' := T57) (g' := (mkF m 69 #[.val (.int x0), .val (.int (8 : Int32)), .val (.ref (A 8)), .val (.int (1 : Int32)), .val (.ref (B 8)), .val (.int (1 : Int32)), .unset] [(.int (1 : Int32))])) (fun _ k => XS.iconst X57.here hx rfl (hb hby at_68) k) ?_
    refine Go.st (T' := T57) (g' := (mkF m 73 #[.val (.int x0), .val (.int (8 : Int32)), .val (.ref (A 8)), .val (.int (1 : Int32)), .val (.ref (B 8)), .val (.int (1 : Int32)), .unset] [(.int (1 : Int32))])) (fun _ k => XS.goto X57.here hx rfl (pc0 := 69) (pc' := 73) rfl (hb hby at_69) (by decide) (by decide) k) ?_
    refine Go.st (T' := T57) (g' := (mkF m 75 #[.val (.int x0), .val (.int (8 : Int32)), .val (.ref (A 8)), .val (.int (1 : Int32)), .val (.ref (B 8)), .val (.int (1 : Int32)), .val (.int (1 : Int32))] [])) (fun _ k => XS.istore X57.here hx rfl (hb hby at_73) rfl (l' := #[.val (.int x0), .val (.int (8 : Int32)), .val (.ref (A 8)), .val (.int (1 : Int32)), .val (.ref (B 8)), .val (.int (1 : Int32)), .val (.int (1 : Int32))]) rfl k) ?_
    refine Go.st (T' := T57) (g' := (mkF m 76 #[.val (.int x0), .val (.int (8 : Int32)), .val (.ref (A 8)), .val (.int (1 : Int32)), .val (.ref (B 8)), .val (.int (1 : Int32)), .val (.int (1 : Int32))] [(.int (1 : Int32))])) (fun _ k => XS.iloadN X57.here hx rfl (hb hby at_75) rfl k) ?_
    refine Go.st (T' := T57) (g' := (mkF m 78 #[.val (.int x0), .val (.int (8 : Int32)), .val (.ref (A 8)), .val (.int (1 : Int32)), .val (.ref (B 8)), .val (.int (1 : Int32)), .val (.int (1 : Int32))] [(.int (1 : Int32)), (.int (1 : Int32))])) (fun _ k => XS.iload X57.here hx rfl (hb hby at_76) rfl k) ?_
    refine Go.st (T' := T57) (g' := (mkF m 81 #[.val (.int x0), .val (.int (8 : Int32)), .val (.ref (A 8)), .val (.int (1 : Int32)), .val (.ref (B 8)), .val (.int (1 : Int32)), .val (.int (1 : Int32))] [])) (fun _ k => XS.icmpNo X57.here hx rfl (hb hby at_78) rfl (teq ((by decide) : (1 : Int32) = (1 : Int32))).2 k) ?_
    refine Go.st (T' := T57) (g' := (mkF m 82 #[.val (.int x0), .val (.int (8 : Int32)), .val (.ref (A 8)), .val (.int (1 : Int32)), .val (.ref (B 8)), .val (.int (1 : Int32)), .val (.int (1 : Int32))] [(.int (1 : Int32))])) (fun _ k => XS.iloadN X57.here hx rfl (hb hby at_81) rfl k) ?_
    refine Go.st (T' := T57) (g' := (mkF m 84 #[.val (.int x0), .val (.int (8 : Int32)), .val (.ref (A 8)), .val (.int (1 : Int32)), .val (.ref (B 8)), .val (.int (1 : Int32)), .val (.int (1 : Int32))] [(.int (1 : Int32)), (.int (1 : Int32))])) (fun _ k => XS.iload X57.here hx rfl (hb hby at_82) rfl k) ?_
    refine Go.st (T' := T57) (g' := (mkF m 87 #[.val (.int x0), .val (.int (8 : Int32)), .val (.ref (A 8)), .val (.int (1 : Int32)), .val (.ref (B 8)), .val (.int (1 : Int32)), .val (.int (1 : Int32))] [])) (fun _ k => XS.icmpNo X57.here hx rfl (hb hby at_84) rfl (teq ((by decide) : (1 : Int32) = (1 : Int32))).2 k) ?_
    refine Go.st (T' := T57) (g' := (mkF m 88 #[.val (.int x0), .val (.int (8 : Int32)), .val (.ref (A 8)), .val (.int (1 : Int32)), .val (.ref (B 8)), .val (.int (1 : Int32)), .val (.int (1 : Int32))] [(.int (1 : Int32))])) (fun _ k => XS.iconst X57.here hx rfl (hb hby at_87) k) ?_
    refine Go.st (T' := T57) (g' := (mkF m 92 #[.val (.int x0), .val (.int (8 : Int32)), .val (.ref (A 8)), .val (.int (1 : Int32)), .val (.ref (B 8)), .val (.int (1 : Int32)), .val (.int (1 : Int32))] [(.int (1 : Int32))])) (fun _ k => XS.goto X57.here hx rfl (pc0 := 88) (pc' := 92) rfl (hb hby at_88) (by decide) (by decide) k) ?_
    refine Go.retN X57 hx hlk hret rfl (by simp) (hb hby at_92) (by decide) (by decide) e57 ?_
    exact ⟨rfl, N53⟩
theorem w7 {a0 : Array Value} {Z : State} (hw : ∀ d ∈ tables_1, d.before a0 Z = true) : ((Jvm.Cond.laysStatic "com/example/patience/patience/congruence/Format" "GSOS" "Lcom/example/patience/patience/congruence/Format;")).before a0 Z = true := hw _ (List.mem_of_getElem? (i := 7) rfl)
theorem w22 {a0 : Array Value} {Z : State} (hw : ∀ d ∈ tables_1, d.before a0 Z = true) : ((Jvm.Cond.initialized "com/example/patience/patience/equivalence/Equivalence")).before a0 Z = true := hw _ (List.mem_of_getElem? (i := 22) rfl)
theorem w23 {a0 : Array Value} {Z : State} (hw : ∀ d ∈ tables_1, d.before a0 Z = true) : ((Jvm.Cond.laysStatic "com/example/patience/patience/equivalence/Equivalence" "STRONG" "Lcom/example/patience/patience/equivalence/Equivalence;")).before a0 Z = true := hw _ (List.mem_of_getElem? (i := 23) rfl)
theorem w25 {a0 : Array Value} {Z : State} (hw : ∀ d ∈ tables_1, d.before a0 Z = true) : ((Jvm.Cond.laysStatic "com/example/patience/patience/equivalence/Equivalence" "ROOTED_WEAK" "Lcom/example/patience/patience/equivalence/Equivalence;")).before a0 Z = true := hw _ (List.mem_of_getElem? (i := 25) rfl)
theorem w27 {a0 : Array Value} {Z : State} (hw : ∀ d ∈ tables_1, d.before a0 Z = true) : ((Jvm.Cond.laysStatic "com/example/patience/patience/equivalence/Equivalence" "ROOTED_DELAY" "Lcom/example/patience/patience/equivalence/Equivalence;")).before a0 Z = true := hw _ (List.mem_of_getElem? (i := 27) rfl)
theorem w29 {a0 : Array Value} {Z : State} (hw : ∀ d ∈ tables_1, d.before a0 Z = true) : ((Jvm.Cond.laysStatic "com/example/patience/patience/equivalence/Equivalence" "ROOTED_ETA" "Lcom/example/patience/patience/equivalence/Equivalence;")).before a0 Z = true := hw _ (List.mem_of_getElem? (i := 29) rfl)
theorem w31 {a0 : Array Value} {Z : State} (hw : ∀ d ∈ tables_1, d.before a0 Z = true) : ((Jvm.Cond.laysStatic "com/example/patience/patience/equivalence/Equivalence" "ROOTED_BRANCHING" "Lcom/example/patience/patience/equivalence/Equivalence;")).before a0 Z = true := hw _ (List.mem_of_getElem? (i := 31) rfl)
theorem w33 {a0 : Array Value} {Z : State} (hw : ∀ d ∈ tables_1, d.before a0 Z = true) : ((Jvm.Cond.laysStatic "com/example/patience/patience/congruence/Format" "SIMPLY_HB_COOL" "Lcom/example/patience/patience/congruence/Format;")).before a0 Z = true := hw _ (List.mem_of_getElem? (i := 33) rfl)
theorem w34 {a0 : Array Value} {Z : State} (hw : ∀ d ∈ tables_1, d.before a0 Z = true) : ((Jvm.Cond.laysStatic "com/example/patience/patience/equivalence/Equivalence" "ETA" "Lcom/example/patience/patience/equivalence/Equivalence;")).before a0 Z = true := hw _ (List.mem_of_getElem? (i := 34) rfl)
theorem w36 {a0 : Array Value} {Z : State} (hw : ∀ d ∈ tables_1, d.before a0 Z = true) : ((Jvm.Cond.laysStatic "com/example/patience/patience/congruence/Format" "SIMPLY_DB_COOL" "Lcom/example/patience/patience/congruence/Format;")).before a0 Z = true := hw _ (List.mem_of_getElem? (i := 36) rfl)
theorem w37 {a0 : Array Value} {Z : State} (hw : ∀ d ∈ tables_1, d.before a0 Z = true) : ((Jvm.Cond.laysStatic "com/example/patience/patience/equivalence/Equivalence" "DELAY" "Lcom/example/patience/patience/equivalence/Equivalence;")).before a0 Z = true := hw _ (List.mem_of_getElem? (i := 37) rfl)
theorem w39 {a0 : Array Value} {Z : State} (hw : ∀ d ∈ tables_1, d.before a0 Z = true) : ((Jvm.Cond.laysStatic "com/example/patience/patience/congruence/Format" "SIMPLY_WB_COOL" "Lcom/example/patience/patience/congruence/Format;")).before a0 Z = true := hw _ (List.mem_of_getElem? (i := 39) rfl)
theorem w40 {a0 : Array Value} {Z : State} (hw : ∀ d ∈ tables_1, d.before a0 Z = true) : ((Jvm.Cond.laysStatic "com/example/patience/patience/equivalence/Equivalence" "WEAK" "Lcom/example/patience/patience/equivalence/Equivalence;")).before a0 Z = true := hw _ (List.mem_of_getElem? (i := 40) rfl)
theorem w42 {a0 : Array Value} {Z : State} (hw : ∀ d ∈ tables_1, d.before a0 Z = true) : ((Jvm.Cond.laysStatic "com/example/patience/patience/congruence/Format" "SIMPLY_RHB_COOL" "Lcom/example/patience/patience/congruence/Format;")).before a0 Z = true := hw _ (List.mem_of_getElem? (i := 42) rfl)
theorem w44 {a0 : Array Value} {Z : State} (hw : ∀ d ∈ tables_1, d.before a0 Z = true) : ((Jvm.Cond.laysStatic "com/example/patience/patience/congruence/Format" "SIMPLY_BB_COOL" "Lcom/example/patience/patience/congruence/Format;")).before a0 Z = true := hw _ (List.mem_of_getElem? (i := 44) rfl)
theorem w45 {a0 : Array Value} {Z : State} (hw : ∀ d ∈ tables_1, d.before a0 Z = true) : ((Jvm.Cond.laysStatic "com/example/patience/patience/equivalence/Equivalence" "BRANCHING" "Lcom/example/patience/patience/equivalence/Equivalence;")).before a0 Z = true := hw _ (List.mem_of_getElem? (i := 45) rfl)
theorem w47 {a0 : Array Value} {Z : State} (hw : ∀ d ∈ tables_1, d.before a0 Z = true) : ((Jvm.Cond.laysStatic "com/example/patience/patience/congruence/Format" "SIMPLY_RBB_COOL" "Lcom/example/patience/patience/congruence/Format;")).before a0 Z = true := hw _ (List.mem_of_getElem? (i := 47) rfl)
theorem w49 {a0 : Array Value} {Z : State} (hw : ∀ d ∈ tables_1, d.before a0 Z = true) : ((Jvm.Cond.laysStatic "com/example/patience/patience/congruence/Format" "SIMPLY_RDB_COOL" "Lcom/example/patience/patience/congruence/Format;")).before a0 Z = true := hw _ (List.mem_of_getElem? (i := 49) rfl)
theorem w51 {a0 : Array Value} {Z : State} (hw : ∀ d ∈ tables_1, d.before a0 Z = true) : ((Jvm.Cond.laysStatic "com/example/patience/patience/congruence/Format" "SIMPLY_RWB_COOL" "Lcom/example/patience/patience/congruence/Format;")).before a0 Z = true := hw _ (List.mem_of_getElem? (i := 51) rfl)
set_option maxRecDepth 65536 in
set_option maxHeartbeats 40000000 in
theorem comes_1 {Post : Tables → Env → Array Value → State → Outcome → State → Prop} (hpost : ∀ tb e args s v u, (limb_1_1.after args s (.returned v) u = true ∧ limb_1_2.after args s (.returned v) u = true ∧ True) → FrameEnd s (.returned v) u (Jvm.fieldLocs frame_1_writes args s ++ Jvm.arrayLocs frame_1_arrays args s ++ Jvm.staticLocs frame_1_statics s) 0 0 → Post tb e args s (.returned v) u) :
    ArmFor flags0 classFile x code maxLocals ret World_1 tables_1 room_1 Calls_1 rest_1 Pre_1 Post := by
  intro l hfl _ _ p e ha hc hk s m args below hf hA hF happ hP
  obtain ⟨hcalls, hrest, hpre⟩ := hP
  obtain ⟨-, -, -, hnamed, -, -, -, hat⟩ := (Spec.applies_iff hf).mp happ
  obtain ⟨hg, hn⟩ := and_e (Cond.before_iff.mp (show (Jvm.Cond.and given_1 narrow_1).before args s = true from hpre))
  obtain ⟨g0a, g0b⟩ := and_e hg
  obtain ⟨w0', rfl⟩ : ∃ w0' : Value, args = #[w0'] := by
    have hs : args.size = 1 := by simpa [Cond.value, given_1] using g0a
    obtain ⟨L⟩ := args
    match L, hs with
    | [w0'], _ => exact ⟨w0', rfl⟩
  have hw := fun d (hd : d ∈ tables_1) => atoms_spec (ws := Jvm.Cond.code x code maxLocals ret :: tables_1) hat d (List.mem_cons_of_mem _ hd)
  have hfit : Fit s := fun {y c} hc i hi => by
    obtain ⟨ha, rfl⟩ := Array.getElem?_eq_some_iff.mp hc
    have q := List.all_eq_true.mp ((Array.all_eq_true_iff_forall_mem.mp hF) _ (Array.getElem_mem ha)) i (List.mem_range.mpr hi)
    simpa [Array.getElem?_eq_getElem hi] using q
  obtain ⟨i0, ei0⟩ := is_v g0b
  obtain rfl : w0' = (.int i0) := Option.some.inj ei0
  obtain ⟨c0a, c0b⟩ := and_e hn
  obtain ⟨c1a, c1b⟩ := and_e c0b
  obtain ⟨c2a, c2b⟩ := and_e c1b
  obtain ⟨c3a, c3b⟩ := and_e c2b
  obtain ⟨c4a, c4b⟩ := and_e c3b
  obtain ⟨c5a, c5b⟩ := and_e c4b
  obtain ⟨c6a, c6b⟩ := and_e c5b
  obtain ⟨c7a, c7b⟩ := and_e c6b
  obtain ⟨c8a, c8b⟩ := and_e c7b
  obtain ⟨c9a, c9b⟩ := and_e c8b
  obtain ⟨c10a, c10b⟩ := and_e c9b
  obtain ⟨c11a, c11b⟩ := and_e c10b
  obtain ⟨c12a, c12b⟩ := and_e c11b
  obtain ⟨c13a, c13b⟩ := and_e c12b
  obtain ⟨c14a, c14b⟩ := and_e c13b
  obtain ⟨c15a, c15b⟩ := and_e c14b
  obtain ⟨c16a, c16b⟩ := and_e c15b
  obtain ⟨c17a, c17b⟩ := and_e c16b
  obtain ⟨c18a, c18b⟩ := and_e c17b
  obtain ⟨c19a, c19b⟩ := and_e c18b
  obtain ⟨c20a, c20b⟩ := and_e c19b
  obtain ⟨c21a, c21b⟩ := and_e c20b
  obtain ⟨c22a, c22b⟩ := and_e c21b
  obtain ⟨c23a, c23b⟩ := and_e c22b
  obtain ⟨c24a, c24b⟩ := and_e c23b
  obtain ⟨c25a, c25b⟩ := and_e c24b
  obtain ⟨c26a, c26b⟩ := and_e c25b
  obtain ⟨c27a, c27b⟩ := and_e c26b
  obtain ⟨c28a, c28b⟩ := and_e c27b
  obtain ⟨c29a, c29b⟩ := and_e c28b
  obtain ⟨c30a, c30b⟩ := and_e c29b
  obtain ⟨c31a, c31b⟩ := and_e c30b
  obtain ⟨c32a, c32b⟩ := and_e c31b
  obtain ⟨c33a, c33b⟩ := and_e c32b
  obtain ⟨c34a, c34b⟩ := and_e c33b
  obtain ⟨c35a, c35b⟩ := and_e c34b
  obtain ⟨c36a, c36b⟩ := and_e c35b
  obtain ⟨c37a, c37b⟩ := and_e c36b
  obtain ⟨c38a, c38b⟩ := and_e c37b
  obtain ⟨c39a, c39b⟩ := and_e c38b
  obtain ⟨c40a, c40b⟩ := and_e c39b
  obtain ⟨c41a, c41b⟩ := and_e c40b
  obtain ⟨c42a, c42b⟩ := and_e c41b
  obtain ⟨c43a, c43b⟩ := and_e c42b
  obtain ⟨sa0, ev0⟩ := exa_v c0a
  have sE0 : Exa s s.heap sa0 "com/example/patience/patience/congruence/Format" := Exa.start ev0 c0a
  have sS0 : Sta s s.heap "com/example/patience/patience/congruence/Format" "GSOS" "Lcom/example/patience/patience/congruence/Format;" (.ref sa0) := Sta.start ev0 (Or.inr ⟨(w6 hw), (w7 hw)⟩)
  obtain ⟨sa1, ev1⟩ := exa_v c2a
  have sE1 : Exa s s.heap sa1 "com/example/patience/patience/equivalence/Equivalence" := Exa.start ev1 c2a
  have sS1 : Sta s s.heap "com/example/patience/patience/equivalence/Equivalence" "STRONG" "Lcom/example/patience/patience/equivalence/Equivalence;" (.ref sa1) := Sta.start ev1 (Or.inr ⟨(w22 hw), (w23 hw)⟩)
  obtain ⟨sa2, ev2⟩ := exa_v c4a
  have sE2 : Exa s s.heap sa2 "com/example/patience/patience/equivalence/Equivalence" := Exa.start ev2 c4a
  have sS2 : Sta s s.heap "com/example/patience/patience/equivalence/Equivalence" "ROOTED_WEAK" "Lcom/example/patience/patience/equivalence/Equivalence;" (.ref sa2) := Sta.start ev2 (Or.inr ⟨(w22 hw), (w25 hw)⟩)
  obtain ⟨sa3, ev3⟩ := exa_v c7a
  have sE3 : Exa s s.heap sa3 "com/example/patience/patience/equivalence/Equivalence" := Exa.start ev3 c7a
  have sS3 : Sta s s.heap "com/example/patience/patience/equivalence/Equivalence" "ROOTED_DELAY" "Lcom/example/patience/patience/equivalence/Equivalence;" (.ref sa3) := Sta.start ev3 (Or.inr ⟨(w22 hw), (w27 hw)⟩)
  obtain ⟨sa4, ev4⟩ := exa_v c9a
  have sE4 : Exa s s.heap sa4 "com/example/patience/patience/equivalence/Equivalence" := Exa.start ev4 c9a
  have sS4 : Sta s s.heap "com/example/patience/patience/equivalence/Equivalence" "ROOTED_ETA" "Lcom/example/patience/patience/equivalence/Equivalence;" (.ref sa4) := Sta.start ev4 (Or.inr ⟨(w22 hw), (w29 hw)⟩)
  obtain ⟨sa5, ev5⟩ := exa_v c11a
  have sE5 : Exa s s.heap sa5 "com/example/patience/patience/equivalence/Equivalence" := Exa.start ev5 c11a
  have sS5 : Sta s s.heap "com/example/patience/patience/equivalence/Equivalence" "ROOTED_BRANCHING" "Lcom/example/patience/patience/equivalence/Equivalence;" (.ref sa5) := Sta.start ev5 (Or.inr ⟨(w22 hw), (w31 hw)⟩)
  obtain ⟨sa6, ev6⟩ := exa_v c13a
  have sE6 : Exa s s.heap sa6 "com/example/patience/patience/congruence/Format" := Exa.start ev6 c13a
  have sS6 : Sta s s.heap "com/example/patience/patience/congruence/Format" "SIMPLY_HB_COOL" "Lcom/example/patience/patience/congruence/Format;" (.ref sa6) := Sta.start ev6 (Or.inr ⟨(w6 hw), (w33 hw)⟩)
  obtain ⟨sa7, ev7⟩ := exa_v c15a
  have sE7 : Exa s s.heap sa7 "com/example/patience/patience/equivalence/Equivalence" := Exa.start ev7 c15a
  have sS7 : Sta s s.heap "com/example/patience/patience/equivalence/Equivalence" "ETA" "Lcom/example/patience/patience/equivalence/Equivalence;" (.ref sa7) := Sta.start ev7 (Or.inr ⟨(w22 hw), (w34 hw)⟩)
  obtain ⟨sa8, ev8⟩ := exa_v c18a
  have sE8 : Exa s s.heap sa8 "com/example/patience/patience/congruence/Format" := Exa.start ev8 c18a
  have sS8 : Sta s s.heap "com/example/patience/patience/congruence/Format" "SIMPLY_DB_COOL" "Lcom/example/patience/patience/congruence/Format;" (.ref sa8) := Sta.start ev8 (Or.inr ⟨(w6 hw), (w36 hw)⟩)
  obtain ⟨sa9, ev9⟩ := exa_v c20a
  have sE9 : Exa s s.heap sa9 "com/example/patience/patience/equivalence/Equivalence" := Exa.start ev9 c20a
  have sS9 : Sta s s.heap "com/example/patience/patience/equivalence/Equivalence" "DELAY" "Lcom/example/patience/patience/equivalence/Equivalence;" (.ref sa9) := Sta.start ev9 (Or.inr ⟨(w22 hw), (w37 hw)⟩)
  obtain ⟨sa10, ev10⟩ := exa_v c23a
  have sE10 : Exa s s.heap sa10 "com/example/patience/patience/congruence/Format" := Exa.start ev10 c23a
  have sS10 : Sta s s.heap "com/example/patience/patience/congruence/Format" "SIMPLY_WB_COOL" "Lcom/example/patience/patience/congruence/Format;" (.ref sa10) := Sta.start ev10 (Or.inr ⟨(w6 hw), (w39 hw)⟩)
  obtain ⟨sa11, ev11⟩ := exa_v c25a
  have sE11 : Exa s s.heap sa11 "com/example/patience/patience/equivalence/Equivalence" := Exa.start ev11 c25a
  have sS11 : Sta s s.heap "com/example/patience/patience/equivalence/Equivalence" "WEAK" "Lcom/example/patience/patience/equivalence/Equivalence;" (.ref sa11) := Sta.start ev11 (Or.inr ⟨(w22 hw), (w40 hw)⟩)
  obtain ⟨sa12, ev12⟩ := exa_v c28a
  have sE12 : Exa s s.heap sa12 "com/example/patience/patience/congruence/Format" := Exa.start ev12 c28a
  have sS12 : Sta s s.heap "com/example/patience/patience/congruence/Format" "SIMPLY_RHB_COOL" "Lcom/example/patience/patience/congruence/Format;" (.ref sa12) := Sta.start ev12 (Or.inr ⟨(w6 hw), (w42 hw)⟩)
  obtain ⟨sa13, ev13⟩ := exa_v c31a
  have sE13 : Exa s s.heap sa13 "com/example/patience/patience/congruence/Format" := Exa.start ev13 c31a
  have sS13 : Sta s s.heap "com/example/patience/patience/congruence/Format" "SIMPLY_BB_COOL" "Lcom/example/patience/patience/congruence/Format;" (.ref sa13) := Sta.start ev13 (Or.inr ⟨(w6 hw), (w44 hw)⟩)
  obtain ⟨sa14, ev14⟩ := exa_v c33a
  have sE14 : Exa s s.heap sa14 "com/example/patience/patience/equivalence/Equivalence" := Exa.start ev14 c33a
  have sS14 : Sta s s.heap "com/example/patience/patience/equivalence/Equivalence" "BRANCHING" "Lcom/example/patience/patience/equivalence/Equivalence;" (.ref sa14) := Sta.start ev14 (Or.inr ⟨(w22 hw), (w45 hw)⟩)
  obtain ⟨sa15, ev15⟩ := exa_v c36a
  have sE15 : Exa s s.heap sa15 "com/example/patience/patience/congruence/Format" := Exa.start ev15 c36a
  have sS15 : Sta s s.heap "com/example/patience/patience/congruence/Format" "SIMPLY_RBB_COOL" "Lcom/example/patience/patience/congruence/Format;" (.ref sa15) := Sta.start ev15 (Or.inr ⟨(w6 hw), (w47 hw)⟩)
  obtain ⟨sa16, ev16⟩ := exa_v c39a
  have sE16 : Exa s s.heap sa16 "com/example/patience/patience/congruence/Format" := Exa.start ev16 c39a
  have sS16 : Sta s s.heap "com/example/patience/patience/congruence/Format" "SIMPLY_RDB_COOL" "Lcom/example/patience/patience/congruence/Format;" (.ref sa16) := Sta.start ev16 (Or.inr ⟨(w6 hw), (w49 hw)⟩)
  obtain ⟨sa17, ev17⟩ := exa_v c42a
  have sE17 : Exa s s.heap sa17 "com/example/patience/patience/congruence/Format" := Exa.start ev17 c42a
  have sS17 : Sta s s.heap "com/example/patience/patience/congruence/Format" "SIMPLY_RWB_COOL" "Lcom/example/patience/patience/congruence/Format;" (.ref sa17) := Sta.start ev17 (Or.inr ⟨(w6 hw), (w51 hw)⟩)
  have sF0 : Fld s s.heap sa0 "com/example/patience/patience/congruence/Format" "tameFormat" "Lcom/example/patience/patience/congruence/Format;" .null := Fld.start ((fld_at ev0).symm.trans (null_v c1a))
  have sF1 : Fld s s.heap sa0 "com/example/patience/patience/congruence/Format" "equivalence" "Lcom/example/patience/patience/equivalence/Equivalence;" (.ref sa1) := Fld.start ((fld_at ev0).symm.trans (eqv_r ev1 c3a))
  have sF2 : Fld s s.heap sa1 "java/lang/Enum" "ordinal" "I" (.int (0 : Int32)) := Fld.start ((fld_at ev1).symm.trans (eqv_i rfl c5a))
  have sF3 : Fld s s.heap sa2 "java/lang/Enum" "ordinal" "I" (.int (5 : Int32)) := Fld.start ((fld_at ev2).symm.trans (eqv_i rfl c6a))
  have sF4 : Fld s s.heap sa3 "java/lang/Enum" "ordinal" "I" (.int (6 : Int32)) := Fld.start ((fld_at ev3).symm.trans (eqv_i rfl c8a))
  have sF5 : Fld s s.heap sa4 "java/lang/Enum" "ordinal" "I" (.int (7 : Int32)) := Fld.start ((fld_at ev4).symm.trans (eqv_i rfl c10a))
  have sF6 : Fld s s.heap sa5 "java/lang/Enum" "ordinal" "I" (.int (8 : Int32)) := Fld.start ((fld_at ev5).symm.trans (eqv_i rfl c12a))
  have sF7 : Fld s s.heap sa6 "com/example/patience/patience/congruence/Format" "tameFormat" "Lcom/example/patience/patience/congruence/Format;" .null := Fld.start ((fld_at ev6).symm.trans (null_v c14a))
  have sF8 : Fld s s.heap sa6 "com/example/patience/patience/congruence/Format" "equivalence" "Lcom/example/patience/patience/equivalence/Equivalence;" (.ref sa7) := Fld.start ((fld_at ev6).symm.trans (eqv_r ev7 c16a))
  have sF9 : Fld s s.heap sa7 "java/lang/Enum" "ordinal" "I" (.int (3 : Int32)) := Fld.start ((fld_at ev7).symm.trans (eqv_i rfl c17a))
  have sF10 : Fld s s.heap sa8 "com/example/patience/patience/congruence/Format" "tameFormat" "Lcom/example/patience/patience/congruence/Format;" .null := Fld.start ((fld_at ev8).symm.trans (null_v c19a))
  have sF11 : Fld s s.heap sa8 "com/example/patience/patience/congruence/Format" "equivalence" "Lcom/example/patience/patience/equivalence/Equivalence;" (.ref sa9) := Fld.start ((fld_at ev8).symm.trans (eqv_r ev9 c21a))
  have sF12 : Fld s s.heap sa9 "java/lang/Enum" "ordinal" "I" (.int (2 : Int32)) := Fld.start ((fld_at ev9).symm.trans (eqv_i rfl c22a))
  have sF13 : Fld s s.heap sa10 "com/example/patience/patience/congruence/Format" "tameFormat" "Lcom/example/patience/patience/congruence/Format;" .null := Fld.start ((fld_at ev10).symm.trans (null_v c24a))
  have sF14 : Fld s s.heap sa10 "com/example/patience/patience/congruence/Format" "equivalence" "Lcom/example/patience/patience/equivalence/Equivalence;" (.ref sa11) := Fld.start ((fld_at ev10).symm.trans (eqv_r ev11 c26a))
  have sF15 : Fld s s.heap sa11 "java/lang/Enum" "ordinal" "I" (.int (1 : Int32)) := Fld.start ((fld_at ev11).symm.trans (eqv_i rfl c27a))
  have sF16 : Fld s s.heap sa12 "com/example/patience/patience/congruence/Format" "tameFormat" "Lcom/example/patience/patience/congruence/Format;" (.ref sa6) := Fld.start ((fld_at ev12).symm.trans (eqv_r ev6 c29a))
  have sF17 : Fld s s.heap sa12 "com/example/patience/patience/congruence/Format" "equivalence" "Lcom/example/patience/patience/equivalence/Equivalence;" (.ref sa4) := Fld.start ((fld_at ev12).symm.trans (eqv_r ev4 c30a))
  have sF18 : Fld s s.heap sa13 "com/example/patience/patience/congruence/Format" "tameFormat" "Lcom/example/patience/patience/congruence/Format;" .null := Fld.start ((fld_at ev13).symm.trans (null_v c32a))
  have sF19 : Fld s s.heap sa13 "com/example/patience/patience/congruence/Format" "equivalence" "Lcom/example/patience/patience/equivalence/Equivalence;" (.ref sa14) := Fld.start ((fld_at ev13).symm.trans (eqv_r ev14 c34a))
  have sF20 : Fld s s.heap sa14 "java/lang/Enum" "ordinal" "I" (.int (4 : Int32)) := Fld.start ((fld_at ev14).symm.trans (eqv_i rfl c35a))
  have sF21 : Fld s s.heap sa15 "com/example/patience/patience/congruence/Format" "tameFormat" "Lcom/example/patience/patience/congruence/Format;" (.ref sa13) := Fld.start ((fld_at ev15).symm.trans (eqv_r ev13 c37a))
  have sF22 : Fld s s.heap sa15 "com/example/patience/patience/congruence/Format" "equivalence" "Lcom/example/patience/patience/equivalence/Equivalence;" (.ref sa5) := Fld.start ((fld_at ev15).symm.trans (eqv_r ev5 c38a))
  have sF23 : Fld s s.heap sa16 "com/example/patience/patience/congruence/Format" "tameFormat" "Lcom/example/patience/patience/congruence/Format;" (.ref sa8) := Fld.start ((fld_at ev16).symm.trans (eqv_r ev8 c40a))
  have sF24 : Fld s s.heap sa16 "com/example/patience/patience/congruence/Format" "equivalence" "Lcom/example/patience/patience/equivalence/Equivalence;" (.ref sa3) := Fld.start ((fld_at ev16).symm.trans (eqv_r ev3 c41a))
  have sF25 : Fld s s.heap sa17 "com/example/patience/patience/congruence/Format" "tameFormat" "Lcom/example/patience/patience/congruence/Format;" (.ref sa10) := Fld.start ((fld_at ev17).symm.trans (eqv_r ev10 c43a))
  have sF26 : Fld s s.heap sa17 "com/example/patience/patience/congruence/Format" "equivalence" "Lcom/example/patience/patience/equivalence/Equivalence;" (.ref sa2) := Fld.start ((fld_at ev17).symm.trans (eqv_r ev2 c43b))
  obtain ⟨n, o, h1, h2, h3, _, L, rfl, ⟨rfl, N⟩, hq⟩ := rm_law l s _ hw tables_1 i0 (fun i => ([sa0, sa10, sa8, sa6, sa13, sa17, sa16, sa12, sa15] : List Addr).getD i 0) (fun i => ([sa1, sa11, sa9, sa7, sa14, sa2, sa3, sa4, sa5] : List Addr).getD i 0) s.heap s.heap.size (Nat.le_refl _) (Old.start s) ⟨sS0, sS10, sS8, sS6, sS13, sS17, sS16, sS12, sS15⟩ ⟨sS2, sS3, sS4, sS5⟩ ⟨sE0, sE10, sE8, sE6, sE13, sE17, sE16, sE12, sE15⟩ ⟨sF0, sF13, sF10, sF7, sF18, sF25, sF23, sF16, sF21⟩ ⟨sF1, sF14, sF11, sF8, sF19, sF26, sF24, sF17, sF22⟩ ⟨sF2, sF15, sF12, sF9, sF20, sF3, sF4, sF5, sF6⟩ p e ha hc hk s m _ below hf ((Spec.applies_iff_loose hf).mp happ).1 ⟨rfl, State.Warmed39.refl s, rfl⟩ trivial
  exact ⟨n, _, h1, h2, h3, hpost _ _ _ _ _ _ ⟨Cond.after_iff.mpr rfl, Cond.after_iff.mpr (eq_i res_at (Term.int_eval (1)) rfl), trivial⟩ ⟨hq.1, hq.2.1, (hq.2.2.sift fun y hy => Or.inr (N y hy)).mono (by decide) (by decide)⟩⟩
theorem main_1_1 : Claimed_1_1 := comes_1 fun _ _ _ _ _ _ h hF => ⟨h.1, hF⟩
theorem main_1_2 : Claimed_1_2 := comes_1 fun _ _ _ _ _ _ h hF => ⟨h.2.1, hF⟩
end Jvm.Pilot.@@N@@
namespace Jvm.Pilot.@@N@@
open Jvm Jvm.ClassFile Sem Op Lib Jvm.Free Jvm.Stand Jvm.Pilot.@@N@@.Jvm.D
/-! MADE BY PROGRAM (witnessworld.py) out of the Statement's table words and the real class files: 13 classes; the members and pool entries that the words name. The judged class is class 1, her method 2. -/
namespace start1
open Jvm.ClassFile
def u (s : String) : CpInfo := .utf8 (stringToUtf16 s)
/-- a pool by its gaps: so many unusable entries, then the entry; so many at the end -/
def gap : Nat → List CpInfo → List CpInfo
  | 0, r => r
  | n + 1, r => .unusable :: gap n r
def poolList (es : List (Nat × CpInfo)) (last : Nat) : List CpInfo := es.foldr (fun e r => gap e.1 (e.2 :: r)) (gap last [])
def pool (es : List (Nat × CpInfo)) (last : Nat) : Array CpInfo := ⟨poolList es last⟩
def fileOf (pool : Array CpInfo) (this : Nat) (attrs : Array Attribute := #[]) (ms : Array MethodInfo := #[]) (fl : Nat := 33) (sup : Nat := 0) (ifs : Array Nat := #[]) (fds : Array FieldInfo := #[]) : ClassFile where
  minorVersion := 0
  majorVersion := 65
  constantPool := pool
  accessFlags := fl
  thisClass := this
  superClass := sup
  interfaces := ifs
  fields := fds
  methods := ms
  attributes := attrs
def plain (name : String) (sup : Option ClassId) : Class where
  name := name
  kind := .ordinary
  loader := none
  accessFlags := 33
  super := sup
  interfaces := #[]
  cf := none
  fields := #[]
  methods := #[]
  instanceTypes := #[]
  staticTypes := #[]
  resolved := #[]
  callSites := []
  init := .initialized
  statics := none
  mirror := none

def pool0 : Array CpInfo := pool [(5, u "<init>"), (0, u "()V"), (1, .class_ 10), (1, u "java/lang/Object")] 113

def k0m0 : Method := { name := "<init>", desc := "()V", sig := { parameters := [], returnType := none }, accessFlags := 1, code := none }
/-- java/lang/Object -/
def k0 : Class := { plain "java/lang/Object" none with
  accessFlags := 33
  interfaces := #[]
  cf := some (fileOf pool0 8 #[] #[{ accessFlags := 1, nameIndex := 5, descriptorIndex := 6, attributes := #[] }] 33 0 #[] #[])
  fields := #[]
  methods := #[k0m0]
  instanceTypes := #[]
  staticTypes := #[]
  resolved := Array.replicate 124 none
  statics := none }

def pool1 : Array CpInfo := pool [(2, .class_ 4), (1, u "java/lang/Object"), (0, u "<init>"), (0, u "()V"), (0, .fieldref 8 9), (0, .class_ 10), (0, .nameAndType 11 12), (0, u "com/example/patience/patience/congruence/Format"), (0, u "GSOS"), (0, u "Lcom/example/patience/patience/congruence/Format;"), (0, .fieldref 8 14), (0, .nameAndType 15 12), (0, u "SIMPLY_WB_COOL"), (0, .fieldref 8 17), (0, .nameAndType 18 12), (0, u "SIMPLY_DB_COOL"), (0, .fieldref 8 20), (0, .nameAndType 21 12), (0, u "SIMPLY_HB_COOL"), (0, .fieldref 8 23), (0, .nameAndType 24 12), (0, u "SIMPLY_BB_COOL"), (0, .fieldref 8 26), (0, .nameAndType 27 12), (0, u "SIMPLY_RWB_COOL"), (0, .fieldref 8 29), (0, .nameAndType 30 12), (0, u "SIMPLY_RDB_COOL"), (0, .fieldref 8 32), (0, .nameAndType 33 12), (0, u "SIMPLY_RHB_COOL"), (0, .fieldref 8 35), (0, .nameAndType 36 12), (0, u "SIMPLY_RBB_COOL"), (0, .integer 2147483647), (0, .methodref 39 40), (0, .class_ 41), (0, .nameAndType 42 43), (0, u "com/example/patience/patience/congruence/FormatIsRootedPinLaw"), (0, u "pick"), (0, u "(I)Lcom/example/patience/patience/congruence/Format;"), (0, .methodref 8 45), (0, .nameAndType 46 47), (0, u "isRooted"), (0, u "()Z"), (0, .methodref 8 49), (0, .nameAndType 50 51), (0, u "equivalence"), (0, u "()Lcom/example/patience/patience/equivalence/Equivalence;"), (0, .fieldref 53 54), (0, .class_ 55), (0, .nameAndType 56 57), (0, u "com/example/patience/patience/equivalence/Equivalence"), (0, u "ROOTED_WEAK"), (0, u "Lcom/example/patience/patience/equivalence/Equivalence;"), (0, .fieldref 53 59), (0, .nameAndType 60 57), (0, u "ROOTED_DELAY"), (0, .fieldref 53 62), (0, .nameAndType 63 57), (0, u "ROOTED_ETA"), (0, .fieldref 53 65), (0, .nameAndType 66 57), (0, u "ROOTED_BRANCHING"), (3, u "law"), (0, u "(I)Z")] 2

def k1m0 : Method := { name := "<init>", desc := "()V", sig := { parameters := [], returnType := none }, accessFlags := 2, code := none }
def k1c1 : Code := { maxStack := 2, maxLocals := 1, code := method_2_code, exceptionTable := #[], attributes := #[] }
def k1m1 : Method := { name := "pick", desc := "(I)Lcom/example/patience/patience/congruence/Format;", sig := { parameters := [.int], returnType := some (.object "com/example/patience/patience/congruence/Format") }, accessFlags := 10, code := some k1c1 }
def k1c2 : Code := { maxStack := 2, maxLocals := 7, code := code, exceptionTable := #[], attributes := #[] }
def k1m2 : Method := { name := "law", desc := "(I)Z", sig := { parameters := [.int], returnType := some .boolean }, accessFlags := 9, code := some k1c2 }
/-- com/example/patience/patience/congruence/FormatIsRootedPinLaw -/
def k1 : Class := { plain "com/example/patience/patience/congruence/FormatIsRootedPinLaw" (some 0) with
  accessFlags := 49
  interfaces := #[]
  cf := some (fileOf pool1 39 #[] #[{ accessFlags := 2, nameIndex := 5, descriptorIndex := 6, attributes := #[] }, { accessFlags := 10, nameIndex := 42, descriptorIndex := 43, attributes := #[] }, { accessFlags := 9, nameIndex := 70, descriptorIndex := 71, attributes := #[] }] 49 2 #[] #[])
  fields := #[]
  methods := #[k1m0, k1m1, k1m2]
  instanceTypes := #[]
  staticTypes := #[]
  resolved := Array.replicate 74 none
  statics := none }

def pool2 : Array CpInfo := pool [(1, .class_ 2), (0, u "java/lang/constant/Constable"), (0, .class_ 4), (0, u "java/lang/Object")] 6

/-- java/lang/constant/Constable -/
def k2 : Class := { plain "java/lang/constant/Constable" (some 0) with
  accessFlags := 1537
  interfaces := #[]
  cf := some (fileOf pool2 1 #[] #[] 1537 3 #[] #[])
  fields := #[]
  methods := #[]
  instanceTypes := #[]
  staticTypes := #[]
  resolved := Array.replicate 11 none
  statics := none }

def pool3 : Array CpInfo := pool [(1, .class_ 2), (0, u "java/lang/Comparable"), (0, .class_ 4), (0, u "java/lang/Object")] 7

/-- java/lang/Comparable -/
def k3 : Class := { plain "java/lang/Comparable" (some 0) with
  accessFlags := 1537
  interfaces := #[]
  cf := some (fileOf pool3 1 #[] #[] 1537 3 #[] #[])
  fields := #[]
  methods := #[]
  instanceTypes := #[]
  staticTypes := #[]
  resolved := Array.replicate 12 none
  statics := none }

def pool4 : Array CpInfo := pool [(1, .class_ 2), (0, u "java/io/Serializable"), (0, .class_ 4), (0, u "java/lang/Object")] 2

/-- java/io/Serializable -/
def k4 : Class := { plain "java/io/Serializable" (some 0) with
  accessFlags := 1537
  interfaces := #[]
  cf := some (fileOf pool4 1 #[] #[] 1537 3 #[] #[])
  fields := #[]
  methods := #[]
  instanceTypes := #[]
  staticTypes := #[]
  resolved := Array.replicate 7 none
  statics := none }

def pool5 : Array CpInfo := pool [(2, .class_ 4), (1, u "java/lang/Enum"), (0, u "name"), (0, u "Ljava/lang/String;"), (2, u "ordinal"), (0, u "I"), (1, .class_ 14), (1, u "java/lang/Object"), (4, u "hash"), (86, .class_ 108), (1, u "java/lang/Enum$EnumDesc"), (2, .class_ 112), (0, u "java/lang/constant/Constable"), (0, .class_ 114), (0, u "java/lang/Comparable"), (0, .class_ 116), (0, u "java/io/Serializable")] 87

/-- java/lang/Enum -/
def k5 : Class := { plain "java/lang/Enum" (some 0) with
  accessFlags := 1057
  interfaces := #[2, 3, 4]
  cf := some (fileOf pool5 2 #[.nestMembers #[106]] #[] 1057 12 #[111, 113, 115] #[{ accessFlags := 18, nameIndex := 5, descriptorIndex := 6, attributes := #[] }, { accessFlags := 18, nameIndex := 9, descriptorIndex := 10, attributes := #[] }, { accessFlags := 2, nameIndex := 19, descriptorIndex := 10, attributes := #[] }])
  fields := #[{ name := "name", type := (.object "java/lang/String"), accessFlags := 18, slot := 0, constantValue := 0 }, { name := "ordinal", type := .int, accessFlags := 18, slot := 1, constantValue := 0 }, { name := "hash", type := .int, accessFlags := 2, slot := 2, constantValue := 0 }]
  methods := #[]
  instanceTypes := #[(.object "java/lang/String"), .int, .int]
  staticTypes := #[]
  resolved := Array.replicate 204 none
  statics := none }

def pool6 : Array CpInfo := pool [(1, .class_ 2), (0, u "com/example/patience/patience/congruence/Format"), (2, u "GSOS"), (0, u "Lcom/example/patience/patience/congruence/Format;"), (2, u "SIMPLY_WB_COOL"), (2, u "SIMPLY_DB_COOL"), (2, u "SIMPLY_HB_COOL"), (2, u "SIMPLY_BB_COOL"), (2, u "SIMPLY_RWB_COOL"), (2, u "SIMPLY_RDB_COOL"), (2, u "SIMPLY_RHB_COOL"), (2, u "SIMPLY_RBB_COOL"), (2, u "$VALUES"), (0, u "[Lcom/example/patience/patience/congruence/Format;"), (6, .class_ 43), (1, u "java/lang/Enum"), (8, u "reportedName"), (0, u "Ljava/lang/String;"), (0, .fieldref 1 55), (0, .nameAndType 56 57), (0, u "equivalence"), (0, u "Lcom/example/patience/patience/equivalence/Equivalence;"), (8, u "conditions"), (0, u "Ljava/util/Set;"), (0, .fieldref 1 69), (0, .nameAndType 70 6), (0, u "tameFormat"), (2, u "wildMeetsRuloidClause"), (0, u "Z"), (132, u "()Lcom/example/patience/patience/equivalence/Equivalence;"), (2, u "isRooted"), (0, u "()Z")] 11

def k6c0 : Code := { maxStack := 1, maxLocals := 1, code := prog_21_method_5_code, exceptionTable := #[], attributes := #[] }
def k6m0 : Method := { name := "equivalence", desc := "()Lcom/example/patience/patience/equivalence/Equivalence;", sig := { parameters := [], returnType := some (.object "com/example/patience/patience/equivalence/Equivalence") }, accessFlags := 1, code := some k6c0 }
def k6c1 : Code := { maxStack := 1, maxLocals := 1, code := prog_21_method_7_code, exceptionTable := #[], attributes := #[] }
def k6m1 : Method := { name := "isRooted", desc := "()Z", sig := { parameters := [], returnType := some .boolean }, accessFlags := 1, code := some k6c1 }
/-- com/example/patience/patience/congruence/Format -/
def k6 : Class := { plain "com/example/patience/patience/congruence/Format" (some 5) with
  accessFlags := 16433
  interfaces := #[]
  cf := some (fileOf pool6 1 #[] #[{ accessFlags := 1, nameIndex := 56, descriptorIndex := 207, attributes := #[] }, { accessFlags := 1, nameIndex := 210, descriptorIndex := 211, attributes := #[] }] 16433 41 #[] #[{ accessFlags := 16409, nameIndex := 5, descriptorIndex := 6, attributes := #[] }, { accessFlags := 16409, nameIndex := 9, descriptorIndex := 6, attributes := #[] }, { accessFlags := 16409, nameIndex := 12, descriptorIndex := 6, attributes := #[] }, { accessFlags := 16409, nameIndex := 15, descriptorIndex := 6, attributes := #[] }, { accessFlags := 16409, nameIndex := 18, descriptorIndex := 6, attributes := #[] }, { accessFlags := 16409, nameIndex := 21, descriptorIndex := 6, attributes := #[] }, { accessFlags := 16409, nameIndex := 24, descriptorIndex := 6, attributes := #[] }, { accessFlags := 16409, nameIndex := 27, descriptorIndex := 6, attributes := #[] }, { accessFlags := 16409, nameIndex := 30, descriptorIndex := 6, attributes := #[] }, { accessFlags := 18, nameIndex := 52, descriptorIndex := 53, attributes := #[] }, { accessFlags := 18, nameIndex := 56, descriptorIndex := 57, attributes := #[] }, { accessFlags := 18, nameIndex := 66, descriptorIndex := 67, attributes := #[] }, { accessFlags := 18, nameIndex := 70, descriptorIndex := 6, attributes := #[] }, { accessFlags := 18, nameIndex := 73, descriptorIndex := 74, attributes := #[] }, { accessFlags := 4122, nameIndex := 33, descriptorIndex := 34, attributes := #[] }])
  fields := #[{ name := "GSOS", type := (.object "com/example/patience/patience/congruence/Format"), accessFlags := 16409, slot := 0, constantValue := 0 }, { name := "SIMPLY_WB_COOL", type := (.object "com/example/patience/patience/congruence/Format"), accessFlags := 16409, slot := 1, constantValue := 0 }, { name := "SIMPLY_DB_COOL", type := (.object "com/example/patience/patience/congruence/Format"), accessFlags := 16409, slot := 2, constantValue := 0 }, { name := "SIMPLY_HB_COOL", type := (.object "com/example/patience/patience/congruence/Format"), accessFlags := 16409, slot := 3, constantValue := 0 }, { name := "SIMPLY_BB_COOL", type := (.object "com/example/patience/patience/congruence/Format"), accessFlags := 16409, slot := 4, constantValue := 0 }, { name := "SIMPLY_RWB_COOL", type := (.object "com/example/patience/patience/congruence/Format"), accessFlags := 16409, slot := 5, constantValue := 0 }, { name := "SIMPLY_RDB_COOL", type := (.object "com/example/patience/patience/congruence/Format"), accessFlags := 16409, slot := 6, constantValue := 0 }, { name := "SIMPLY_RHB_COOL", type := (.object "com/example/patience/patience/congruence/Format"), accessFlags := 16409, slot := 7, constantValue := 0 }, { name := "SIMPLY_RBB_COOL", type := (.object "com/example/patience/patience/congruence/Format"), accessFlags := 16409, slot := 8, constantValue := 0 }, { name := "reportedName", type := (.object "java/lang/String"), accessFlags := 18, slot := 3, constantValue := 0 }, { name := "equivalence", type := (.object "com/example/patience/patience/equivalence/Equivalence"), accessFlags := 18, slot := 4, constantValue := 0 }, { name := "conditions", type := (.object "java/util/Set"), accessFlags := 18, slot := 5, constantValue := 0 }, { name := "tameFormat", type := (.object "com/example/patience/patience/congruence/Format"), accessFlags := 18, slot := 6, constantValue := 0 }, { name := "wildMeetsRuloidClause", type := .boolean, accessFlags := 18, slot := 7, constantValue := 0 }, { name := "$VALUES", type := (.array (.object "com/example/patience/patience/congruence/Format")), accessFlags := 4122, slot := 9, constantValue := 0 }]
  methods := #[k6m0, k6m1]
  instanceTypes := #[(.object "java/lang/String"), .int, .int, (.object "java/lang/String"), (.object "com/example/patience/patience/equivalence/Equivalence"), (.object "java/util/Set"), (.object "com/example/patience/patience/congruence/Format"), .boolean]
  staticTypes := #[(.object "com/example/patience/patience/congruence/Format"), (.object "com/example/patience/patience/congruence/Format"), (.object "com/example/patience/patience/congruence/Format"), (.object "com/example/patience/patience/congruence/Format"), (.object "com/example/patience/patience/congruence/Format"), (.object "com/example/patience/patience/congruence/Format"), (.object "com/example/patience/patience/congruence/Format"), (.object "com/example/patience/patience/congruence/Format"), (.object "com/example/patience/patience/congruence/Format"), (.array (.object "com/example/patience/patience/congruence/Format"))]
  resolved := Array.replicate 223 none
  statics := some 0 }

def pool7 : Array CpInfo := pool [(1, .class_ 2), (0, u "com/example/patience/patience/equivalence/Equivalence"), (2, u "STRONG"), (0, u "Lcom/example/patience/patience/equivalence/Equivalence;"), (2, u "WEAK"), (2, u "DELAY"), (2, u "ETA"), (2, u "BRANCHING"), (2, u "ROOTED_WEAK"), (2, u "ROOTED_DELAY"), (2, u "ROOTED_ETA"), (2, u "ROOTED_BRANCHING"), (2, u "$VALUES"), (0, u "[Lcom/example/patience/patience/equivalence/Equivalence;"), (6, .class_ 43), (1, u "java/lang/Enum"), (8, u "typedName"), (0, u "Ljava/lang/String;")] 103

/-- com/example/patience/patience/equivalence/Equivalence -/
def k7 : Class := { plain "com/example/patience/patience/equivalence/Equivalence" (some 5) with
  accessFlags := 16433
  interfaces := #[]
  cf := some (fileOf pool7 1 #[] #[] 16433 41 #[] #[{ accessFlags := 16409, nameIndex := 5, descriptorIndex := 6, attributes := #[] }, { accessFlags := 16409, nameIndex := 9, descriptorIndex := 6, attributes := #[] }, { accessFlags := 16409, nameIndex := 12, descriptorIndex := 6, attributes := #[] }, { accessFlags := 16409, nameIndex := 15, descriptorIndex := 6, attributes := #[] }, { accessFlags := 16409, nameIndex := 18, descriptorIndex := 6, attributes := #[] }, { accessFlags := 16409, nameIndex := 21, descriptorIndex := 6, attributes := #[] }, { accessFlags := 16409, nameIndex := 24, descriptorIndex := 6, attributes := #[] }, { accessFlags := 16409, nameIndex := 27, descriptorIndex := 6, attributes := #[] }, { accessFlags := 16409, nameIndex := 30, descriptorIndex := 6, attributes := #[] }, { accessFlags := 18, nameIndex := 52, descriptorIndex := 53, attributes := #[] }, { accessFlags := 4122, nameIndex := 33, descriptorIndex := 34, attributes := #[] }])
  fields := #[{ name := "STRONG", type := (.object "com/example/patience/patience/equivalence/Equivalence"), accessFlags := 16409, slot := 0, constantValue := 0 }, { name := "WEAK", type := (.object "com/example/patience/patience/equivalence/Equivalence"), accessFlags := 16409, slot := 1, constantValue := 0 }, { name := "DELAY", type := (.object "com/example/patience/patience/equivalence/Equivalence"), accessFlags := 16409, slot := 2, constantValue := 0 }, { name := "ETA", type := (.object "com/example/patience/patience/equivalence/Equivalence"), accessFlags := 16409, slot := 3, constantValue := 0 }, { name := "BRANCHING", type := (.object "com/example/patience/patience/equivalence/Equivalence"), accessFlags := 16409, slot := 4, constantValue := 0 }, { name := "ROOTED_WEAK", type := (.object "com/example/patience/patience/equivalence/Equivalence"), accessFlags := 16409, slot := 5, constantValue := 0 }, { name := "ROOTED_DELAY", type := (.object "com/example/patience/patience/equivalence/Equivalence"), accessFlags := 16409, slot := 6, constantValue := 0 }, { name := "ROOTED_ETA", type := (.object "com/example/patience/patience/equivalence/Equivalence"), accessFlags := 16409, slot := 7, constantValue := 0 }, { name := "ROOTED_BRANCHING", type := (.object "com/example/patience/patience/equivalence/Equivalence"), accessFlags := 16409, slot := 8, constantValue := 0 }, { name := "typedName", type := (.object "java/lang/String"), accessFlags := 18, slot := 3, constantValue := 0 }, { name := "$VALUES", type := (.array (.object "com/example/patience/patience/equivalence/Equivalence")), accessFlags := 4122, slot := 9, constantValue := 0 }]
  methods := #[]
  instanceTypes := #[(.object "java/lang/String"), .int, .int, (.object "java/lang/String")]
  staticTypes := #[(.object "com/example/patience/patience/equivalence/Equivalence"), (.object "com/example/patience/patience/equivalence/Equivalence"), (.object "com/example/patience/patience/equivalence/Equivalence"), (.object "com/example/patience/patience/equivalence/Equivalence"), (.object "com/example/patience/patience/equivalence/Equivalence"), (.object "com/example/patience/patience/equivalence/Equivalence"), (.object "com/example/patience/patience/equivalence/Equivalence"), (.object "com/example/patience/patience/equivalence/Equivalence"), (.object "com/example/patience/patience/equivalence/Equivalence"), (.array (.object "com/example/patience/patience/equivalence/Equivalence"))]
  resolved := Array.replicate 157 none
  statics := some 1 }

def pool8 : Array CpInfo := pool [(1, u "java/lang/Cloneable"), (0, .class_ 1), (0, u "java/lang/Object"), (0, .class_ 3)] 3

/-- java/lang/Cloneable -/
def k8 : Class := { plain "java/lang/Cloneable" (some 0) with
  accessFlags := 1537
  interfaces := #[]
  cf := some (fileOf pool8 2 #[] #[] 1537 4 #[] #[])
  fields := #[]
  methods := #[]
  instanceTypes := #[]
  staticTypes := #[]
  resolved := Array.replicate 8 none
  statics := none }

/-- the primitive byte -/
def k9 : Class := { plain "byte" none with kind := .primitive 'B', accessFlags := 0x411 }
/-- [B -/
def k10 : Class := { plain "[B" (some 0) with kind := .array 9 .byte, interfaces := #[8, 4], accessFlags := 1041 }

/-- the primitive int -/
def k11 : Class := { plain "int" none with kind := .primitive 'I', accessFlags := 0x411 }
/-- [I -/
def k12 : Class := { plain "[I" (some 0) with kind := .array 11 .int, interfaces := #[8, 4], accessFlags := 1041 }

def heap : Heap := #[{ cls := 6, slots := #[.ref 11, .ref 12, .ref 13, .ref 14, .ref 15, .ref 16, .ref 17, .ref 18, .ref 19, .null], vm := .statics 6 },
  { cls := 7, slots := #[.ref 2, .ref 3, .ref 4, .ref 5, .ref 6, .ref 7, .ref 8, .ref 9, .ref 10, .null], vm := .statics 7 },
  { cls := 7, slots := #[.null, .int 0, .int 0, .null], vm := .none },
  { cls := 7, slots := #[.null, .int 1, .int 0, .null], vm := .none },
  { cls := 7, slots := #[.null, .int 2, .int 0, .null], vm := .none },
  { cls := 7, slots := #[.null, .int 3, .int 0, .null], vm := .none },
  { cls := 7, slots := #[.null, .int 4, .int 0, .null], vm := .none },
  { cls := 7, slots := #[.null, .int 5, .int 0, .null], vm := .none },
  { cls := 7, slots := #[.null, .int 6, .int 0, .null], vm := .none },
  { cls := 7, slots := #[.null, .int 7, .int 0, .null], vm := .none },
  { cls := 7, slots := #[.null, .int 8, .int 0, .null], vm := .none },
  { cls := 6, slots := #[.null, .int 0, .int 0, .null, .ref 2, .null, .null, .int 0], vm := .none },
  { cls := 6, slots := #[.null, .int 1, .int 0, .null, .ref 3, .null, .null, .int 0], vm := .none },
  { cls := 6, slots := #[.null, .int 2, .int 0, .null, .ref 4, .null, .null, .int 0], vm := .none },
  { cls := 6, slots := #[.null, .int 3, .int 0, .null, .ref 5, .null, .null, .int 0], vm := .none },
  { cls := 6, slots := #[.null, .int 4, .int 0, .null, .ref 6, .null, .null, .int 0], vm := .none },
  { cls := 6, slots := #[.null, .int 5, .int 0, .null, .ref 7, .null, .ref 12, .int 0], vm := .none },
  { cls := 6, slots := #[.null, .int 6, .int 0, .null, .ref 8, .null, .ref 13, .int 0], vm := .none },
  { cls := 6, slots := #[.null, .int 7, .int 0, .null, .ref 9, .null, .ref 14, .int 0], vm := .none },
  { cls := 6, slots := #[.null, .int 8, .int 0, .null, .ref 10, .null, .ref 15, .int 0], vm := .none }]
def classes : Array Class := #[k0, k1, k2, k3, k4, k5, k6, k7, k8, k9, k10, k11, k12]
def interned : List (Array UInt16 × Addr) := []
def slotsUsed : Nat := 128
def theMethod : MethodId := ⟨1, 2⟩
def args0 : Array Value := #[.int 5]
def aboutOver (below : List Frame) : State where
  vm := { classes := classes, interned := interned.toArray }
  heap := heap
  slotsUsed := slotsUsed
  threads := #[{ frames := .invoking theMethod args0 :: below }]
def below0 : List Frame := [.native { method := ⟨0, 0⟩, args := #[] }]
def about1 : State := aboutOver below0
def p0 : Program := .bare "" "" ""
def e0 : Env := launch0.env 0 0 0
theorem w_frames : about1.frames = Frame.invoking theMethod args0 :: below0 := rfl
set_option maxRecDepth 65536 in
theorem w_args : argsFit about1.vm theMethod args0 = true := by decide +kernel
set_option maxRecDepth 65536 in
theorem w_heap : heapFits about1 = true := by decide +kernel
set_option maxRecDepth 65536 in
theorem w_runnable : about1.curStatus? = some .runnable := by decide +kernel
set_option maxRecDepth 65536 in
theorem w_alone : about1.alone = true := by decide +kernel
set_option maxRecDepth 65536 in
theorem w_named : about1.methodNamed? x = some theMethod := by decide +kernel
set_option maxRecDepth 65536 in
theorem w_hears : about1.hears theMethod below0 = true := by decide +kernel
set_option maxRecDepth 65536 in
theorem w_ripe : about1.ripe theMethod args0 below0 = true := by decide +kernel
theorem w_running : about1.status = .running := rfl
set_option maxRecDepth 65536 in
theorem w_room : about1.hasRoom e0.platform room_1 = true :=
  launch0.hasRoom_least _ room_1 (by decide +kernel) (by decide +kernel) (by decide +kernel) (by decide +kernel) (by decide +kernel) (by decide +kernel)
theorem allAtoms_all (ts : List Jvm.Cond) (a : Array Jvm.Value) (st : Jvm.State) : (allAtoms ts).before a st = ts.all (fun c => c.before a st) := by
  induction ts with
  | nil => rfl
  | cons c t ih =>
    show (Jvm.Cond.and c (allAtoms t)).before a st = _
    rw [Jvm.Cond.before_and, ih, List.all_cons]
def words1 : List Jvm.Cond := Jvm.Cond.code x code maxLocals ret :: tables_1
/-- a 'code' word, met by the world's own term for the bytes: nothing is compared byte by byte -/
theorem code_word {y : MethodName} {bytes : ByteArray} {mx : Nat} {rt : Option FieldType} {a : Array Value} {s : State} {m : MethodId} {meth : Method} {c : Code} (h1 : s.methodNamed? y = some m) (h2 : s.vm.method? m = some meth) (h3 : meth.code = some c) (h4 : c.code = bytes)
    (h5 : (c.maxLocals == mx && c.exceptionTable.isEmpty && decide (c.maxStack ≤ mostOperands) && decide (meth.sig.returnType = rt) && !meth.locks && decide (parseMethodDescriptor y.desc = some meth.sig)) = true) : (Jvm.Cond.code y bytes mx rt).before a s = true := by
  simp only [Bool.and_eq_true, beq_iff_eq, Bool.not_eq_true', decide_eq_true_eq] at h5
  obtain ⟨⟨⟨⟨⟨g1, g2⟩, g3⟩, g4⟩, g5⟩, g6⟩ := h5
  simp [Cond.before, Cond.holds, Cond.value, h1, h2, h3, h4, g1, g2, g3, g4, g5, g6]
def isCode : Jvm.Cond → Bool
  | .code _ _ _ _ => true
  | _ => false
theorem all_split {L : List Jvm.Cond} {P : Jvm.Cond → Bool} (h1 : L.all (fun c => isCode c || P c) = true) (h2 : ∀ c ∈ L.filter isCode, P c = true) : L.all P = true := by
  refine List.all_eq_true.mpr fun c hc => ?_
  have h := List.all_eq_true.mp h1 c hc
  rcases Bool.eq_false_or_eq_true (isCode c) with hi | hi
  · exact h2 c (List.mem_filter.mpr ⟨hc, hi⟩)
  · simpa [hi] using h
set_option maxRecDepth 65536 in
theorem w_c0 : (Jvm.Cond.code x code maxLocals ret).before args0 about1 = true := code_word (m := ⟨1, 2⟩) (meth := k1m2) (c := k1c2) (by decide +kernel) rfl rfl rfl (by decide +kernel)
set_option maxRecDepth 65536 in
theorem w_c1 : (Jvm.Cond.code ({ cls := "com/example/patience/patience/congruence/FormatIsRootedPinLaw", name := "pick", desc := "(I)Lcom/example/patience/patience/congruence/Format;" } : Jvm.MethodName) method_2_code (1 : Nat) (Option.some (Jvm.ClassFile.FieldType.object "com/example/patience/patience/congruence/Format"))).before args0 about1 = true := code_word (m := ⟨1, 1⟩) (meth := k1m1) (c := k1c1) (by decide +kernel) rfl rfl rfl (by decide +kernel)
set_option maxRecDepth 65536 in
theorem w_c2 : (Jvm.Cond.code ({ cls := "com/example/patience/patience/congruence/Format", name := "isRooted", desc := "()Z" } : Jvm.MethodName) prog_21_method_7_code (1 : Nat) (Option.some Jvm.ClassFile.FieldType.boolean)).before args0 about1 = true := code_word (m := ⟨6, 1⟩) (meth := k6m1) (c := k6c1) (by decide +kernel) rfl rfl rfl (by decide +kernel)
set_option maxRecDepth 65536 in
theorem w_c3 : (Jvm.Cond.code ({ cls := "com/example/patience/patience/congruence/Format", name := "equivalence", desc := "()Lcom/example/patience/patience/equivalence/Equivalence;" } : Jvm.MethodName) prog_21_method_5_code (1 : Nat) (Option.some (Jvm.ClassFile.FieldType.object "com/example/patience/patience/equivalence/Equivalence"))).before args0 about1 = true := code_word (m := ⟨6, 0⟩) (meth := k6m0) (c := k6c0) (by decide +kernel) rfl rfl rfl (by decide +kernel)
def codes1 : List Jvm.Cond := [Jvm.Cond.code x code maxLocals ret, Jvm.Cond.code ({ cls := "com/example/patience/patience/congruence/FormatIsRootedPinLaw", name := "pick", desc := "(I)Lcom/example/patience/patience/congruence/Format;" } : Jvm.MethodName) method_2_code (1 : Nat) (Option.some (Jvm.ClassFile.FieldType.object "com/example/patience/patience/congruence/Format")), Jvm.Cond.code ({ cls := "com/example/patience/patience/congruence/Format", name := "isRooted", desc := "()Z" } : Jvm.MethodName) prog_21_method_7_code (1 : Nat) (Option.some Jvm.ClassFile.FieldType.boolean), Jvm.Cond.code ({ cls := "com/example/patience/patience/congruence/Format", name := "equivalence", desc := "()Lcom/example/patience/patience/equivalence/Equivalence;" } : Jvm.MethodName) prog_21_method_5_code (1 : Nat) (Option.some (Jvm.ClassFile.FieldType.object "com/example/patience/patience/equivalence/Equivalence"))]
set_option maxRecDepth 65536 in
theorem codes_eq : words1.filter isCode = codes1 := rfl
theorem w_codes : ∀ c ∈ words1.filter isCode, c.before args0 about1 = true := by
  rw [codes_eq]
  intro c hc
  simp only [codes1, List.mem_cons, List.not_mem_nil, or_false] at hc
  rcases hc with rfl | rfl | rfl | rfl
  · exact w_c0
  · exact w_c1
  · exact w_c2
  · exact w_c3
set_option maxRecDepth 65536 in
theorem w_t1 : (words1.take 24).all (fun c => isCode c || c.before args0 about1) = true := by decide +kernel
set_option maxRecDepth 65536 in
theorem w_t2 : ((words1.drop 24).take 24).all (fun c => isCode c || c.before args0 about1) = true := by decide +kernel
set_option maxRecDepth 65536 in
theorem w_t3 : ((words1.drop 24).drop 24).all (fun c => isCode c || c.before args0 about1) = true := by decide +kernel
theorem w_tables : (allAtoms (Jvm.Cond.code x code maxLocals ret :: tables_1)).before args0 about1 = true := by
  rw [allAtoms_all]
  show words1.all (fun c => c.before args0 about1) = true
  refine all_split ?_ w_codes
  rw [← List.take_append_drop 24 words1, List.all_append, w_t1, ← List.take_append_drop 24 (words1.drop 24), List.all_append, w_t2, w_t3]
  rfl
set_option maxRecDepth 65536 in
theorem w_case : (Jvm.Cond.and given_1 narrow_1).before args0 about1 = true := by decide +kernel
theorem w_applies : (headSpec (Jvm.Cond.code x code maxLocals ret :: tables_1) room_1).applies x e0.platform about1 = true :=
  (Spec.applies_iff w_frames).mpr ⟨w_running, w_runnable, w_alone, w_named, w_hears, w_ripe, w_room, w_tables⟩
theorem atStart : AtStart classFile x code maxLocals ret World_1 tables_1 room_1 Calls_1 rest_1 Pre_1 launch0 p0 e0 about1 theMethod args0 below0 :=
  ⟨lists_1, trivial, launch0.admits_env _ _ _, launch0.least_env, fairChoices_fair.cas, fairChoices_fair.clock, w_frames, w_args, w_heap, w_applies, trivial, trivial, w_case⟩
end start1
theorem witness_1 : WitnessClaimed_1 := ⟨start1.p0, start1.e0, start1.about1, start1.theMethod, start1.args0, start1.below0, start1.atStart⟩
end Jvm.Pilot.@@N@@
