import JvmDerived
import JvmDerived.Pilot.@@N@@Statement
import JvmDerived.Pilot.@@N@@Code
set_option linter.unusedVariables false
set_option linter.unusedSimpArgs false
namespace Jvm.RoadKit
open Sem ClassFile Op Lib Jvm.Stand Jvm.Free Jvm.LawKit
section OwnGo
variable {p : Program} {l : Launch} {e : Env} {R : Room} {s : State} {m : MethodId} {args : Array Value} {below : List Frame} {meth : Method} {c : Code} {T T' : State} {locs : List Loc} {cells slots : Nat} {tb : Tables} {P : State → Outcome → Prop} {g g' : JFrame} {Z : State} {a0 : Array Value} {h h' : Heap}
/-- from here the run goes on to an end that P says -/
def Go (tb : Tables) (e : Env) (below : List Frame) (P : State → Outcome → Prop) (T : State) (g : JFrame) : Prop :=
  ∃ u o, Steps tb e below (T.setTop g) u ∧ u.status = .running ∧ Ended u below o ∧ P u o
theorem Go.st (st : ∀ target, Steps tb e below (T'.setTop g') target → Steps tb e below (T.setTop g) target) (k : Go tb e below P T' g') : Go tb e below P T g := by
  obtain ⟨u, o, h1, h2⟩ := k
  exact ⟨u, o, st u h1, h2⟩
theorem Go.tr (st : Steps tb e below (T.setTop g) (T'.setTop g')) (k : Go tb e below P T' g') : Go tb e below P T g := Go.st (fun _ h => st.trans h) k
theorem Go.cast (q : g = g') (k : Go tb e below P T g') : Go tb e below P T g := q ▸ k
/-- the end of a body that interns nothing -/
def FinP (s : State) (Q : Option Value → Heap → List Loc → Prop) (K N : Nat) (u : State) (o : Outcome) : Prop := ∃ v L, o = .returned v ∧ Q v u.heap L ∧ FrameEnd s o u L K N
theorem Go.retN {Q : Option Value → Heap → List Loc → Prop} {K N : Nat} (X : Stand p l e R s m args below meth c T locs cells slots) (hx : p.tables.exec = Jvm.exec) (hlk : meth.locks = false) {pc : Nat} {Ls : Array Slot} {z : Int32} {t : FieldType} {rest : List Value} (hret : meth.sig.returnType = some t)
    (hn : narrow t (.int z) = .int z) (ht : t = .int ∨ t = .boolean ∨ t = .byte ∨ t = .char ∨ t = .short) (hd : decode c.code pc = .ok (.ireturn, 1)) (hK : cells ≤ K) (hN : slots ≤ N) (eT : T.heap = h) (hQ : Q (some (.int z)) h locs) : Go p.tables e below (FinP s Q K N) T (mkF m pc Ls (.int z :: rest)) := by
  obtain ⟨fs, hr, hrun, hended, hW, hsame⟩ := X.leave (v := some (.int z)) (fun h => by rw [hret] at h; cases h) hlk
  exact ⟨_, _, retOut X hx hret hn (Or.inl ⟨rfl, ht, z, rfl⟩) hd hr, hrun, hended, _, _, rfl, (by rw [show (T.setFrames fs).heap = h from eT]; exact hQ), ⟨_, rfl⟩, hW, hsame.mono hK hN⟩
theorem Go.retL {Q : Option Value → Heap → List Loc → Prop} {K N : Nat} (X : Stand p l e R s m args below meth c T locs cells slots) (hx : p.tables.exec = Jvm.exec) (hlk : meth.locks = false) {pc : Nat} {Ls : Array Slot} {z : Int64} {rest : List Value} (hret : meth.sig.returnType = some .long)
    (hd : decode c.code pc = .ok (.lreturn, 1)) (hK : cells ≤ K) (hN : slots ≤ N) (eT : T.heap = h) (hQ : Q (some (.long z)) h locs) : Go p.tables e below (FinP s Q K N) T (mkF m pc Ls (.long z :: rest)) := by
  obtain ⟨fs, hr, hrun, hended, hW, hsame⟩ := X.leave (v := some (.long z)) (fun h => by rw [hret] at h; cases h) hlk
  exact ⟨_, _, retOut X hx hret rfl (Or.inr (Or.inl ⟨rfl, rfl, z, rfl⟩)) hd hr, hrun, hended, _, _, rfl, (by rw [show (T.setFrames fs).heap = h from eT]; exact hQ), ⟨_, rfl⟩, hW, hsame.mono hK hN⟩
theorem narrow_ref {t : FieldType} {w : Value} (ht : t.isReference = true) : narrow t w = w := by cases t <;> first | rfl | (cases w <;> rfl) | (simp [FieldType.isReference] at ht)
theorem Go.retA {Q : Option Value → Heap → List Loc → Prop} {K N : Nat} (X : Stand p l e R s m args below meth c T locs cells slots) (hx : p.tables.exec = Jvm.exec) (hlk : meth.locks = false) {pc : Nat} {Ls : Array Slot} {w : Value} {t : FieldType} {rest : List Value} (hret : meth.sig.returnType = some t)
    (ht : t.isReference = true) (hw : w.isRef = true) (hd : decode c.code pc = .ok (.areturn, 1)) (hK : cells ≤ K) (hN : slots ≤ N) (eT : T.heap = h) (hQ : Q (some w) h locs) : Go p.tables e below (FinP s Q K N) T (mkF m pc Ls (w :: rest)) := by
  obtain ⟨fs, hr, hrun, hended, hW, hsame⟩ := X.leave (v := some w) (fun h => by rw [hret] at h; cases h) hlk
  exact ⟨_, _, retOut X hx hret (narrow_ref ht) (Or.inr (Or.inr (Or.inr (Or.inr ⟨rfl, ht, hw⟩)))) hd hr, hrun, hended, _, _, rfl, (by rw [show (T.setFrames fs).heap = h from eT]; exact hQ), ⟨_, rfl⟩, hW, hsame.mono hK hN⟩
theorem Go.retV {Q : Option Value → Heap → List Loc → Prop} {K N : Nat} (X : Stand p l e R s m args below meth c T locs cells slots) (hx : p.tables.exec = Jvm.exec) (hlk : meth.locks = false) {pc : Nat} {Ls : Array Slot} (hret : meth.sig.returnType = none)
    (hd : decode c.code pc = .ok (.return_, 1)) (hK : cells ≤ K) (hN : slots ≤ N) (eT : T.heap = h) (hQ : Q none h locs) : Go p.tables e below (FinP s Q K N) T (mkF m pc Ls []) := by
  obtain ⟨fs, hr, hrun, hended, hW, hsame⟩ := X.leave (v := none) (fun _ => rfl) hlk
  exact ⟨_, _, X.returnOut hx hret hd hr, hrun, hended, _, _, rfl, (by rw [show (T.setFrames fs).heap = h from eT]; exact hQ), ⟨_, rfl⟩, hW, hsame.mono hK hN⟩
/-- a body's contract: called with as' at the heap h0 it returns as Q says -/
def Con (l : Launch) (Z : State) (y : MethodName) (bytes : ByteArray) (maxL : Nat) (ret : Option FieldType) (ws : List Cond) (rm : Room) (as' : Array Value) (h0 : Heap) (Q : Option Value → Heap → List Loc → Prop) : Prop :=
  MetFree l y (head1 (Cond.code y bytes maxL ret :: ws) rm) (fun a U => a = as' ∧ Z.Warmed39 U.vm ∧ U.heap = h0) (fun _ _ _ _ _ => True) (fun _ U o U' => ∃ v L, o = .returned v ∧ Q v U'.heap L ∧ FrameEnd U o U' L rm.cells rm.slots)
theorem Con.enter {y : MethodName} {bytes : ByteArray} {maxL : Nat} {ret : Option FieldType} {ws : List Cond} {rm : Room} {as' : Array Value} {h0 : Heap} {Q : Option Value → Heap → List Loc → Prop} (hp : plainFor y = true)
    (H : ∀ (p : Program) (e : Env) (s : State) (m : MethodId) (below : List Frame) (meth : Method) (c : Code) (s₁ : State), Stand p l e rm s m as' below meth c s₁ [] 0 0 → p.tables.exec = Jvm.exec → Z.Warmed39 s.vm → c.code = bytes → c.maxLocals = maxL → meth.sig.returnType = ret → meth.locks = false → s.vm.findClass y.cls = some m.cls → meth.name = y.name → s₁.heap = h0 →
      Go p.tables e below (FinP s Q rm.cells rm.slots) s₁ (entryFrame m as' maxL)) : Con l Z y bytes maxL ret ws rm as' h0 Q := by
  refine MetFree.of_bodySF hp hisR ?_
  intro p e s m args below meth c s₁ Bd hml0 hP hK
  obtain ⟨rfl, hZ, hh⟩ := hP
  exact H p e s m below meth c s₁ (Stand.of_body Bd) Bd.exec hZ Bd.bytes hml0 Bd.returns Bd.notSynchronized (findClass_of_methodNamed Bd.named) (name_of_methodNamed Bd.named Bd.method).1 (by rw [← hh, Bd.state]; rfl)
theorem Con.mono {y : MethodName} {bytes : ByteArray} {maxL : Nat} {ret : Option FieldType} {ws : List Cond} {rm : Room} {as' : Array Value} {h0 : Heap} {Q Q' : Option Value → Heap → List Loc → Prop} (C : Con l Z y bytes maxL ret ws rm as' h0 Q) (H : ∀ v h L, Q v h L → Q' v h L) : Con l Z y bytes maxL ret ws rm as' h0 Q' := by
  intro p e ha hc hk s m args below hf happ hP hK
  obtain ⟨n, o, h1, h2, h3, v, L, rfl, hq, hr⟩ := C p e ha hc hk s m args below hf happ hP hK
  exact ⟨n, _, h1, h2, h3, v, L, rfl, H _ _ _ hq, hr⟩
variable {y z : MethodName} {bytes : ByteArray} {maxL : Nat} {ret : Option FieldType} {rm : Room} {as' : Array Value} {Q : Option Value → Heap → List Loc → Prop} {W len : Nat} {own C owner : String} {index : Nat} {argsL rest : List Value}
/-- behind a call -/
theorem Go.back {vs : Array Value} {vm1 : Vm → Pt} {n : Nat} (H : ∃ (v : Option Value) (vm₁ : Vm) (B : Pt), s.WarmedH vm₁ ∧ Stand p l e R s m args below meth c B.U B.locs B.cells B.slots ∧ (∃ L, Q v B.U.heap L ∧ B.locs = locs ++ L ∧ B.cells = cells + rm.cells ∧ B.slots = slots + rm.slots) ∧
      Steps p.tables e below (T.setTop g) (B.U.setTop { g with pc := g.pc + n, stack := v.toList ++ rest }))
    (k : ∀ (v : Option Value) (T' : State) (h' : Heap) (L : List Loc), Stand p l e R s m args below meth c T' (locs ++ L) (cells + rm.cells) (slots + rm.slots) → T'.heap = h' → Q v h' L → Go p.tables e below P T' { g with pc := g.pc + n, stack := v.toList ++ rest }) : Go p.tables e below P T g := by
  obtain ⟨v, _, ⟨U, L1, k1, n1⟩, -, X', ⟨L, hQ, e1, e2, e3⟩, st⟩ := H
  have e1' : L1 = locs ++ L := e1
  have e2' : k1 = cells + rm.cells := e2
  have e3' : n1 = slots + rm.slots := e3
  subst e1' e2' e3'
  exact Go.tr st (k v U _ L X' rfl hQ)
theorem Go.callSt (X : Stand p l e R s m args below meth c T locs cells slots) (hx : p.tables.exec = Jvm.exec) (hZ : Z.Warmed39 s.vm) (hown : s.vm.findClass own = some m.cls) (eT : T.heap = h)
    (w1 : (Cond.methodLink own index y).before a0 Z = true) (w2 : (Cond.static y).before a0 Z = true) (w3 : (Cond.initialized y.cls).before a0 Z = true) (w4 : (Cond.code y bytes maxL ret).before a0 Z = true) (hy : y.cls ≠ "java/lang/invoke/MethodHandle" ∧ y.cls ≠ "java/lang/invoke/VarHandle")
    (hM : Con l Z y bytes maxL ret [] rm as' h Q) (ha : argsL.toArray = as') (hlen : ∀ sig, parseMethodDescriptor y.desc = some sig → argsL.length = sig.parameters.length) (hg : g.method = m) (hsize : g.locals.size = c.maxLocals) (hst : g.stack = argsL.reverse ++ rest)
    (hW : 2 * g.monitorRoom + (rest.map fun v => v.category).sum ≤ W) (hf : rm.frames + 1 ≤ R.frames) (hl : W + (maxL + 11) + rm.locals ≤ R.locals) (hc : cells + rm.cells ≤ R.cells) (hs : slots + rm.slots ≤ R.slots) (hd : decode c.code g.pc = .ok (.invokestatic index, 3))
    (k : ∀ (v : Option Value) (T' : State) (h' : Heap) (L : List Loc), Stand p l e R s m args below meth c T' (locs ++ L) (cells + rm.cells) (slots + rm.slots) → T'.heap = h' → Q v h' L → Go p.tables e below P T' { g with pc := g.pc + 3, stack := v.toList ++ rest }) : Go p.tables e below P T g := by
  obtain ⟨v, vm₁, B, q1, q2, q3, q4⟩ := Jvm.LawKit.callS X hx (y := y) (bytes := bytes) (maxL := maxL) (ret := ret) hown (mvT hZ w1) (mvT hZ w2) (mvT hZ w3) (mvT hZ w4) hy (backOf (W := W) (a0 := a0) hM hZ w4 w3 hf hl) (g := g) hg hsize (argsL := argsL) (rest := rest) hlen hst hW hd (fun _ _ => ⟨ha, eT, hc, hs⟩)
  exact Go.back (vs := as') (vm1 := fun _ => ⟨T, [], 0, 0⟩) ⟨v, vm₁, B, q1, q2, q3, q4 _ (Steps.refl _)⟩ k
theorem Go.callSp (X : Stand p l e R s m args below meth c T locs cells slots) (hx : p.tables.exec = Jvm.exec) (hZ : Z.Warmed39 s.vm) (hown : s.vm.findClass own = some m.cls) (eT : T.heap = h) (hy1 : y.name = "<init>")
    (w1 : (Cond.methodLink own index y).before a0 Z = true) (w2 : (Cond.instanceMethod y).before a0 Z = true) (w3 : (Cond.initialized y.cls).before a0 Z = true) (w4 : (Cond.code y bytes maxL none).before a0 Z = true) (hy : y.cls ≠ "java/lang/invoke/MethodHandle" ∧ y.cls ≠ "java/lang/invoke/VarHandle")
    {a : Addr} (hM : Con l Z y bytes maxL none [] rm as' h Q) (ha : (Value.ref a :: argsL).toArray = as') (hlen : ∀ sig, parseMethodDescriptor y.desc = some sig → argsL.length = sig.parameters.length) (hg : g.method = m) (hsize : g.locals.size = c.maxLocals) (hst : g.stack = argsL.reverse ++ .ref a :: rest)
    (hW : 2 * g.monitorRoom + (rest.map fun v => v.category).sum ≤ W) (hf : rm.frames + 1 ≤ R.frames) (hl : W + (maxL + 11) + rm.locals ≤ R.locals) (hc : cells + rm.cells ≤ R.cells) (hs : slots + rm.slots ≤ R.slots) (hd : decode c.code g.pc = .ok (.invokespecial index, 3))
    (k : ∀ (v : Option Value) (T' : State) (h' : Heap) (L : List Loc), Stand p l e R s m args below meth c T' (locs ++ L) (cells + rm.cells) (slots + rm.slots) → T'.heap = h' → Q v h' L → Go p.tables e below P T' { g with pc := g.pc + 3, stack := v.toList ++ rest }) : Go p.tables e below P T g := by
  exact Go.back (vs := as') (vm1 := fun _ => ⟨T, [], 0, 0⟩) (X.specialBack hx (y := y) hy1 hown (mvT hZ w1) (mvT hZ w2) (mvT hZ w4) hy (backOf (W := W) (a0 := a0) hM hZ w4 w3 hf hl) (g := g) hg hsize (Steps.refl _) (a := a) (argsL := argsL) (rest := rest) hlen hst hW hd (fun _ _ => ⟨ha, eT, hc, hs⟩)) k
theorem Go.callV (X : Stand p l e R s m args below meth c T locs cells slots) (hx : p.tables.exec = Jvm.exec) (hZ : Z.Warmed39 s.vm) (hown : s.vm.findClass own = some m.cls) (eT : T.heap = h)
    (w1 : (Cond.methodLink own index y).before a0 Z = true) (w2 : (Cond.declares y).before a0 Z = true) (w5 : (Cond.selects C y z).before a0 Z = true) (w6 : (Cond.instanceMethod z).before a0 Z = true) (w3 : (Cond.initialized z.cls).before a0 Z = true) (w4 : (Cond.code z bytes maxL ret).before a0 Z = true)
    (hnf : NotFace s y) (hy : y.cls ≠ "java/lang/invoke/MethodHandle" ∧ y.cls ≠ "java/lang/invoke/VarHandle")
    {a : Addr} (E : Exa Z h a C) (hM : Con l Z z bytes maxL ret [] rm as' h Q) (ha : (Value.ref a :: argsL).toArray = as') (hlen : ∀ sig, parseMethodDescriptor y.desc = some sig → argsL.length = sig.parameters.length) (hg : g.method = m) (hsize : g.locals.size = c.maxLocals) (hst : g.stack = argsL.reverse ++ .ref a :: rest)
    (hW : 2 * g.monitorRoom + (rest.map fun v => v.category).sum ≤ W) (hf : rm.frames + 1 ≤ R.frames) (hl : W + (maxL + 11) + rm.locals ≤ R.locals) (hc : cells + rm.cells ≤ R.cells) (hs : slots + rm.slots ≤ R.slots) (hd : decode c.code g.pc = .ok (.invokevirtual index, 3))
    (k : ∀ (v : Option Value) (T' : State) (h' : Heap) (L : List Loc), Stand p l e R s m args below meth c T' (locs ++ L) (cells + rm.cells) (slots + rm.slots) → T'.heap = h' → Q v h' L → Go p.tables e below P T' { g with pc := g.pc + 3, stack := v.toList ++ rest }) : Go p.tables e below P T g := by
  obtain ⟨cq, kq, qa, qb, qc⟩ := isOf hZ eT E
  exact Go.back (vs := as') (vm1 := fun _ => ⟨T, [], 0, 0⟩) (X.virtualBack hx (y := y) (z := z) hown (mvT hZ w1) (mvT hZ w2) hnf (mvT hZ w5) (mvT hZ w6) hy (backOf (W := W) (a0 := a0) hM hZ w4 w3 hf hl) qa qc (g := g) hg hsize (Steps.refl _) (argsL := argsL) (rest := rest) hlen hst hW hd (fun _ _ => ⟨ha, eT, hc, hs⟩)) k
theorem Go.callUp (X : Stand p l e R s m args below meth c T locs cells slots) (hx : p.tables.exec = Jvm.exec) (hZ : Z.Warmed39 s.vm) (hown : s.vm.findClass own = some m.cls) (eT : T.heap = h)
    (w1 : (Cond.methodLink own index y).before a0 Z = true) (w2 : (Cond.sameMethod y.cls owner y.name y.desc).before a0 Z = true) (w7 : (Cond.declares ⟨owner, y.name, y.desc⟩).before a0 Z = true) (hy : owner ≠ "java/lang/invoke/MethodHandle" ∧ owner ≠ "java/lang/invoke/VarHandle")
    (w5 : (Cond.selects C y z).before a0 Z = true) (w6 : (Cond.instanceMethod z).before a0 Z = true) (w3 : (Cond.initialized z.cls).before a0 Z = true) (w4 : (Cond.code z bytes maxL ret).before a0 Z = true)
    {a : Addr} (E : Exa Z h a C) (hM : Con l Z z bytes maxL ret [] rm as' h Q) (ha : (Value.ref a :: argsL).toArray = as') (hlen : ∀ sig, parseMethodDescriptor y.desc = some sig → argsL.length = sig.parameters.length) (hg : g.method = m) (hsize : g.locals.size = c.maxLocals) (hst : g.stack = argsL.reverse ++ .ref a :: rest)
    (hW : 2 * g.monitorRoom + (rest.map fun v => v.category).sum ≤ W) (hf : rm.frames + 1 ≤ R.frames) (hl : W + (maxL + 11) + rm.locals ≤ R.locals) (hc : cells + rm.cells ≤ R.cells) (hs : slots + rm.slots ≤ R.slots) (hd : decode c.code g.pc = .ok (.invokevirtual index, 3))
    (k : ∀ (v : Option Value) (T' : State) (h' : Heap) (L : List Loc), Stand p l e R s m args below meth c T' (locs ++ L) (cells + rm.cells) (slots + rm.slots) → T'.heap = h' → Q v h' L → Go p.tables e below P T' { g with pc := g.pc + 3, stack := v.toList ++ rest }) : Go p.tables e below P T g := by
  obtain ⟨cq, kq, qa, qb, qc⟩ := isOf hZ eT E
  exact Go.back (vs := as') (vm1 := fun _ => ⟨T, [], 0, 0⟩) (X.virtualBackUp hx (x := y) (y := z) hown (mvT hZ w1) (mvT hZ w2) (mvT hZ w7) hy (mvT hZ w5) (mvT hZ w6) (backOf (W := W) (a0 := a0) hM hZ w4 w3 hf hl) qa qc (g := g) hg hsize (Steps.refl _) (argsL := argsL) (rest := rest) hlen hst hW hd (fun _ _ => ⟨ha, eT, hc, hs⟩)) k
theorem ldCV (X : Stand p l e R s m args below meth c T locs cells slots) (hx : p.tables.exec = Jvm.exec) (hZ : Z.Warmed39 s.vm) (eT : T.heap = h) {a : Addr} {k : ClassId} {z : Int32} {vs : List Value} {d : Value} (F : Arv Z h a k .char z vs d) {j : Int32} (hj : ¬ j < 0 ∧ j < z) {v : Value} (hv : vs.getD j.toNatClampNeg d = v) {g : JFrame} (hg : g.method = m) {rest : List Value} (hs : g.stack = .int j :: .ref a :: rest) (hd : decode c.code g.pc = .ok (.caload, 1)) {target : State}
    (kk : Steps p.tables e below (T.setTop { g with pc := g.pc + 1, stack := v :: rest }) target) : Steps p.tables e below (T.setTop g) target := by
  obtain ⟨cl, A, q1, S, q3, H, G⟩ := F
  exact X.caload hx (j := j) (v := v) (by rw [eT]; exact A.1) (State.isArrayOf_alike hZ.alike A.2.1) A.2.2 (inb_of S hj) (H.at (inb_of S hj) hv) hg hs hd _ kk
theorem ldBV (X : Stand p l e R s m args below meth c T locs cells slots) (hx : p.tables.exec = Jvm.exec) (hZ : Z.Warmed39 s.vm) (eT : T.heap = h) {a : Addr} {k : ClassId} {z : Int32} {vs : List Value} {d : Value} (F : Arv Z h a k .byte z vs d) {j : Int32} (hj : ¬ j < 0 ∧ j < z) {v : Value} (hv : vs.getD j.toNatClampNeg d = v) {g : JFrame} (hg : g.method = m) {rest : List Value} (hs : g.stack = .int j :: .ref a :: rest) (hd : decode c.code g.pc = .ok (.baload, 1)) {target : State}
    (kk : Steps p.tables e below (T.setTop { g with pc := g.pc + 1, stack := v :: rest }) target) : Steps p.tables e below (T.setTop g) target := by
  obtain ⟨cl, A, q1, S, q3, H, G⟩ := F
  exact X.baloadBytes hx (j := j) (v := v) (by rw [eT]; exact A.1) (State.isArrayOf_alike hZ.alike A.2.1) A.2.2 (inb_of S hj) (H.at (inb_of S hj) hv) hg hs hd _ kk
theorem ldIV (X : Stand p l e R s m args below meth c T locs cells slots) (hx : p.tables.exec = Jvm.exec) (hZ : Z.Warmed39 s.vm) (eT : T.heap = h) {a : Addr} {k : ClassId} {z : Int32} {vs : List Value} {d : Value} (F : Arv Z h a k .int z vs d) {j : Int32} (hj : ¬ j < 0 ∧ j < z) {v : Value} (hv : vs.getD j.toNatClampNeg d = v) {g : JFrame} (hg : g.method = m) {rest : List Value} (hs : g.stack = .int j :: .ref a :: rest) (hd : decode c.code g.pc = .ok (.iaload, 1)) {target : State}
    (kk : Steps p.tables e below (T.setTop { g with pc := g.pc + 1, stack := v :: rest }) target) : Steps p.tables e below (T.setTop g) target := by
  obtain ⟨cl, A, q1, S, q3, H, G⟩ := F
  exact X.iaload hx (j := j) (v := v) (by rw [eT]; exact A.1) (State.isArrayOf_alike hZ.alike A.2.1) A.2.2 (inb_of S hj) (H.at (inb_of S hj) hv) hg hs hd _ kk
theorem ldRV (X : Stand p l e R s m args below meth c T locs cells slots) (hx : p.tables.exec = Jvm.exec) (hZ : Z.Warmed39 s.vm) (eT : T.heap = h) {a : Addr} {k : ClassId} {C : String} {z : Int32} {vs : List Value} {d : Value} (F : Arv Z h a k (.object C) z vs d) {j : Int32} (hj : ¬ j < 0 ∧ j < z) {v : Value} (hv : vs.getD j.toNatClampNeg d = v) {g : JFrame} (hg : g.method = m) {rest : List Value} (hs : g.stack = .int j :: .ref a :: rest) (hd : decode c.code g.pc = .ok (.aaload, 1)) {target : State}
    (kk : Steps p.tables e below (T.setTop { g with pc := g.pc + 1, stack := v :: rest }) target) : Steps p.tables e below (T.setTop g) target := by
  obtain ⟨cl, A, q1, S, q3, H, G⟩ := F
  exact X.aaload hx (j := j) (v := v) (by rw [eT]; exact A.1) (State.isArrayOf_alike hZ.alike A.2.1) rfl A.2.2 (inb_of S hj) (H.at (inb_of S hj) hv) hg hs hd _ kk
theorem lenV (X : Stand p l e R s m args below meth c T locs cells slots) (hx : p.tables.exec = Jvm.exec) (hZ : Z.Warmed39 s.vm) (eT : T.heap = h) {a : Addr} {k : ClassId} {ty : FieldType} {z : Int32} {vs : List Value} {d : Value} (F : Arv Z h a k ty z vs d) {g : JFrame} (hg : g.method = m) {rest : List Value} (hs : g.stack = .ref a :: rest) (hd : decode c.code g.pc = .ok (.arraylength, 1)) {target : State}
    (kk : Steps p.tables e below (T.setTop { g with pc := g.pc + 1, stack := .int z :: rest }) target) : Steps p.tables e below (T.setTop g) target := by
  obtain ⟨cl, A, q1, S, q3, H, G⟩ := F
  refine X.arraylength hx (by rw [eT]; exact A.1) (State.isArrayOf_alike hZ.alike A.2.1) hg hs hd _ ?_
  rw [len_of S q3]; exact kk
theorem stCV (X : Stand p l e R s m args below meth c T locs cells slots) (hx : p.tables.exec = Jvm.exec) (hZ : Z.Warmed39 s.vm) (eT : T.heap = h) {a : Addr} {k : ClassId} {z : Int32} {vs : List Value} {d : Value} (F : Arv Z h a k .char z vs d) {j x : Int32} {i : Nat} (hj : ¬ j < 0 ∧ j < z) (hi : j.toNatClampNeg = i) (hl : i < vs.length) {g : JFrame} (hg : g.method = m) {rest : List Value} (hs : g.stack = .int x :: .int j :: .ref a :: rest) (hd : decode c.code g.pc = .ok (.castore, 1)) :
    ∃ T' h', Stand p l e R s m args below meth c T' (locs ++ [⟨a, j.toNatClampNeg⟩]) cells slots ∧ T'.heap = h' ∧ Wr h h' a j.toNatClampNeg (.int (nar .char x)) ∧ Arv Z h' a k .char z (vs.set i (.int (nar .char x))) d ∧ ∀ target, Steps p.tables e below (T'.setTop { g with pc := g.pc + 1, stack := rest }) target → Steps p.tables e below (T.setTop g) target := by
  obtain ⟨cl, A, q1, S, q3, H, G⟩ := F
  obtain ⟨T', h', X', e', W, st⟩ := stC X hx hZ eT A (inb_of S hj) hg hs hd
  exact ⟨T', h', X', e', W, Arv.set A q1 S q3 H G (fits_nar_char _) W i hi hl, st⟩
theorem stBV (X : Stand p l e R s m args below meth c T locs cells slots) (hx : p.tables.exec = Jvm.exec) (hZ : Z.Warmed39 s.vm) (eT : T.heap = h) {a : Addr} {k : ClassId} {z : Int32} {vs : List Value} {d : Value} (F : Arv Z h a k .byte z vs d) {j x : Int32} {i : Nat} (hj : ¬ j < 0 ∧ j < z) (hi : j.toNatClampNeg = i) (hl : i < vs.length) {g : JFrame} (hg : g.method = m) {rest : List Value} (hs : g.stack = .int x :: .int j :: .ref a :: rest) (hd : decode c.code g.pc = .ok (.bastore, 1)) :
    ∃ T' h', Stand p l e R s m args below meth c T' (locs ++ [⟨a, j.toNatClampNeg⟩]) cells slots ∧ T'.heap = h' ∧ Wr h h' a j.toNatClampNeg (.int (nar .byte x)) ∧ Arv Z h' a k .byte z (vs.set i (.int (nar .byte x))) d ∧ ∀ target, Steps p.tables e below (T'.setTop { g with pc := g.pc + 1, stack := rest }) target → Steps p.tables e below (T.setTop g) target := by
  obtain ⟨cl, A, q1, S, q3, H, G⟩ := F
  obtain ⟨T', h', X', e', W, st⟩ := stB X hx hZ eT A (inb_of S hj) hg hs hd
  exact ⟨T', h', X', e', W, Arv.set A q1 S q3 H G (fits_nar_byte _) W i hi hl, st⟩
theorem eqv_r {Z : State} {args : Array Value} {X F : Term} {idx : List Nat} {y : Addr} (hF : F.eval args Z none idx Z = some (.ref y)) (h : (Cond.eq X F).value args Z none Z idx = some true) : X.eval args Z none idx Z = some (.ref y) := by
  cases hX : X.eval args Z none idx Z with
  | none => simp [Cond.value, hX] at h
  | some v => cases v <;> simp [Cond.value, hX, hF] at h ⊢; exact h
theorem Arv.startL {Z : State} {args : Array Value} {t : Term} {a : Addr} {ty : FieldType} {z : Int32} {vs : List Value} {dv : Value} (hf : Fit Z) (et : t.eval args Z none [] Z = some (.ref a)) (ha : (Cond.arrayOf t ty).value args Z none Z [] = some true) (hl : (Cond.eq (.length t) (.int z)).value args Z none Z [] = some true)
    (hz : ¬ z < 0) (hn : z.toNatClampNeg = vs.length) (H : ∀ c, Z.heap[a]? = some c → HasL c 0 vs) : ∃ k, Arv Z Z.heap a k ty z vs dv := by
  obtain ⟨c, A⟩ := Arr.start et ha
  obtain ⟨b, cell, e1, e2, e3, e4⟩ := Jvm.Lib.length_spec (eqv_i rfl hl)
  cases et.symm.trans e1
  cases (A.fin (Vm.Alike.refl _)).symm.trans e2
  exact ⟨c.cls, Arv.start hf A e3 (Value.int.inj e4).symm hz hn (H c A.1)⟩
theorem Keep.toExt (K : Keep h h' []) : Ext h h' := ⟨K.1, fun a c q => K.2.1 a c q (fun z => nomatch z)⟩
theorem Ext.toKeep (E : Ext h h') : Keep h h' [] := ⟨E.1, fun a c q _ => E.2 a c q, fun a c q => ⟨c, E.2 a c q, rfl, rfl, rfl⟩⟩
theorem Ext.refl (h : Heap) : Ext h h := ⟨Nat.le_refl _, fun _ _ q => q⟩
theorem Ext.tr {h2 : Heap} (A : Ext h h') (B : Ext h' h2) : Ext h h2 := ⟨Nat.le_trans A.1 B.1, fun a c q => B.2 a c (A.2 a c q)⟩
theorem Ext.thenK {h2 : Heap} {ws : List Addr} (A : Ext h h') (K : Keep h' h2 ws) (q : ∀ x ∈ ws, h.size ≤ x) : Ext h h2 := (A.toKeep.trans K fun x hx => Or.inr (q x hx)).toExt
theorem Ext.thenW {h2 : Heap} {a : Addr} {sl : Nat} {v : Value} (A : Ext h h') (W : Wr h' h2 a sl v) (q : h.size ≤ a) : Ext h h2 := (A.toKeep.wr W (Or.inr q)).toExt
/-- a String: its coder and its bytes -/
def StrB (Z : State) (h : Heap) (a : Addr) (cd : Int32) (bs : List Int32) : Prop := ∃ (t : Addr) (k : ClassId), Exa Z h a "java/lang/String" ∧ Fld Z h a "java/lang/String" "coder" "B" (.int cd) ∧ Fld Z h a "java/lang/String" "value" "[B" (.ref t) ∧ Arv Z h t k .byte (Int32.ofNat bs.length) (bs.map Value.int) (.int (0 : Int32))
theorem StrB.ext {a : Addr} {cd : Int32} {bs : List Int32} (F : StrB Z h a cd bs) (E : Ext h h') : StrB Z h' a cd bs := by
  obtain ⟨t, k, h1, h2, h3, h4⟩ := F; exact ⟨t, k, h1.ext E, h2.ext E, h3.ext E, h4.ext E⟩
theorem StrB.lt {a : Addr} {cd : Int32} {bs : List Int32} (F : StrB Z h a cd bs) : a < h.size := by obtain ⟨t, k, h1, -⟩ := F; exact h1.lt
theorem StrB.exa {a : Addr} {cd : Int32} {bs : List Int32} (F : StrB Z h a cd bs) : Exa Z h a "java/lang/String" := by obtain ⟨t, k, h1, -⟩ := F; exact h1
theorem StrB.keepO {a b : Addr} {C : String} {kk : Nat} {cd : Int32} {bs : List Int32} (F : StrB Z h a cd bs) (E : Exa Z h b C) (hC : C ≠ "java/lang/String") (wi : (Cond.instantiable C kk).before a0 Z = true) (K : Keep h h' [b]) : StrB Z h' a cd bs := by
  obtain ⟨t, k, h1, h2, h3, h4⟩ := F
  have n1 : a ≠ b := ne_exa h1 E (Ne.symm hC)
  have n2 : t ≠ b := by obtain ⟨c, A, -⟩ := h4; exact Ne.symm (ne_arr E wi A)
  exact ⟨t, k, h1.keep K, h2.keep K (ninS n1 nin0), h3.keep K (ninS n1 nin0), h4.keep K (ninS n2 nin0)⟩
theorem StrB.wrO {a b : Addr} {sl : Nat} {v : Value} {C : String} {kk : Nat} {cd : Int32} {bs : List Int32} (F : StrB Z h a cd bs) (E : Exa Z h b C) (hC : C ≠ "java/lang/String") (wi : (Cond.instantiable C kk).before a0 Z = true) (W : Wr h h' b sl v) : StrB Z h' a cd bs := F.keepO E hC wi (Keep.of_wr W)
theorem Arv.uniq {a : Addr} {k k' : ClassId} {ty ty' : FieldType} {bs ds : List Int32} (lb : bs.length < 2 ^ 31) (ld : ds.length < 2 ^ 31) (A : Arv Z h a k ty (Int32.ofNat bs.length) (bs.map Value.int) (.int 0)) (B : Arv Z h a k' ty' (Int32.ofNat ds.length) (ds.map Value.int) (.int 0)) : bs = ds := by
  obtain ⟨c1, A1, -, A3, -, A5, -⟩ := A
  obtain ⟨c2, B1, -, B3, -, B5, -⟩ := B
  cases A1.1.symm.trans B1.1
  have z : ∀ n : Nat, n < 2 ^ 31 → (Int32.ofNat n).toNatClampNeg = n := fun n hn => by
    have q : (Int32.ofNat n).toInt = n := Int32.toInt_ofNat_of_lt (by omega)
    simp [Int32.toNatClampNeg, q]
  rw [z _ lb] at A3
  rw [z _ ld] at B3
  have hl : bs.length = ds.length := A3.symm.trans B3
  refine List.ext_getElem hl fun i h1 h2 => ?_
  have q := (A5 i (by omega)).symm.trans (B5 i (by omega))
  simpa [List.getD_eq_getElem?_getD, h1, h2] using q
theorem StrB.uniq {a : Addr} {cd cd' : Int32} {bs ds : List Int32} (lb : bs.length < 2 ^ 31) (ld : ds.length < 2 ^ 31) (F : StrB Z h a cd bs) (G : StrB Z h a cd' ds) : cd = cd' ∧ bs = ds := by
  obtain ⟨t, k, h1, h2, h3, h4⟩ := F
  obtain ⟨t', k', g1, g2, g3, g4⟩ := G
  have e1 : cd = cd' := Classical.byContradiction fun q => h2.ne g2 (fun z => q (Value.int.inj z)) rfl
  have e2 : t = t' := Classical.byContradiction fun q => h3.ne g3 (fun z => q (Value.ref.inj z)) rfl
  subst e2
  exact ⟨e1, h4.uniq lb ld g4⟩
theorem NS.rootI {O K : String} {kk : Nat} (w : (Cond.noSuperclass O).before a0 Z = true) (wk : (Cond.instantiable K kk).before a0 Z = true) (hn : O ≠ K) : NS Z O K := by
  obtain ⟨c, k, h1, h2, h3, -, -⟩ := Cond.noSuperclass_spec w
  obtain ⟨t, kt, g1, -⟩ := Cond.instantiable_spec wk
  have ne := ids_ne h1 g1 hn
  refine ⟨c, t, h1, g1, fun fuel => ?_⟩
  cases fuel with
  | zero => rfl
  | succ f => simp [Vm.isSubclassAux, ne, h2, h3]
theorem NS.noI {C S K : String} {kk : Nat} (w : (Cond.superclass C S).before a0 Z = true) (wk : (Cond.instantiable K kk).before a0 Z = true) (n : NS Z C K) (hn : C ≠ K) : ∃ c t, Z.vm.findClass C = some c ∧ Z.vm.findClass K = some t ∧ Z.vm.assignable c t = false := by
  obtain ⟨c, t, h0, g0, n3⟩ := n
  obtain ⟨p, k, kp, h1, h2, h3, h4, h5, -, h7⟩ := Cond.superclass_spec h0 w
  obtain ⟨t', kt, g1, g2, g3, g4, -⟩ := Cond.instantiable_spec wk
  cases g0.symm.trans g1
  have g7 : kt.isInterface = false := by simp only [Bool.or_eq_false_iff] at g4; exact g4.1
  have ne := ids_ne h0 g0 hn
  refine ⟨c, t, h0, g0, ?_⟩
  show Z.vm.assignableAux (255 + 1) c t = false
  simp [Vm.assignableAux, ne, h2, g2, h5, g3, g7, Vm.isSubclass, n3]
theorem i2c_id {x : Int32} (h : 0 ≤ x.toInt ∧ x.toInt < 65536) : x.toUInt32.toUInt16.toUInt32.toInt32 = x := by
  have q := c_i2c x
  exact Int32.toInt_inj.mp (by omega)
theorem i2b_id {x : Int32} (h : -128 ≤ x.toInt ∧ x.toInt < 128) : x.toInt8.toInt32 = x := by
  have q := c_i2b x
  exact Int32.toInt_inj.mp (by omega)
theorem nar_b {x : Int32} : nar .byte (x.toInt8.toInt32) = x.toInt8.toInt32 := i2b_id (c_i2b x).2
theorem nar_c {x : Int32} : nar .char (x.toUInt32.toUInt16.toUInt32.toInt32) = x.toUInt32.toUInt16.toUInt32.toInt32 := i2c_id (c_i2c x).2
theorem nar_cid {x : Int32} (h : 0 ≤ x.toInt ∧ x.toInt < 65536) : nar .char x = x := i2c_id h
theorem and255 (x : Int32) : 0 ≤ ((x &&& 255).toUInt32.toUInt16.toUInt32.toInt32).toInt ∧ ((x &&& 255).toUInt32.toUInt16.toUInt32.toInt32).toInt ≤ 255 := by
  have h := c_mask x 255 8 (by decide) (by decide)
  have q := c_i2c (x &&& 255)
  omega
theorem le255 {x : Int32} (h : 0 ≤ x.toInt ∧ x.toInt ≤ 255) : ¬ (255 : Int32) < x := by rw [Int32.lt_iff_toInt_lt]; have : (255 : Int32).toInt = 255 := rfl; omega
theorem ne_lt {x b i j : Nat} (h1 : x < i) (h2 : i ≤ j) (h3 : j ≤ b) : x ≠ b := by omega
theorem own_add0 (n : Nat) : n + 0 = n := rfl
end OwnGo
end Jvm.RoadKit
namespace Jvm.RoadKit
open Sem ClassFile Op Lib Jvm.Stand Jvm.Free Jvm.LawKit
section OwnS
variable {p : Program} {l : Launch} {e : Env} {R : Room} {s : State} {m : MethodId} {args : Array Value} {below : List Frame} {meth : Method} {c : Code} {T T' : State} {locs : List Loc} {cells slots : Nat} {tb : Tables} {P : State → Outcome → Prop} {g g' : JFrame} {Z : State} {a0 : Array Value} {h h' h0 : Heap} {EL : List (String × Nat)} {vm0 : Vm} {k0 : Nat}
/-- the end of a body that may have interned its constants -/
def FinS (s Z : State) (EL : List (String × Nat)) (h0 : Heap) (Q : Option Value → Heap → List Loc → Prop) (K N : Nat) (u : State) (o : Outcome) : Prop := ∃ v L, o = .returned v ∧ Q v u.heap L ∧ CHr Z EL s.vm h0 u.vm u.heap ∧ ReturnedEndW s o u L K N
theorem Go.endS {Q : Option Value → Heap → List Loc → Prop} {K N : Nat} (X : Stand p l e R (s.setVm vm0) m args below meth c T locs cells slots) (hlk : meth.locks = false) (hS : s.Since vm0 k0) (hk : k0 ≤ h.size) (A : CHr Z EL s.vm h0 vm0 h) (hZ : Z.Warmed39 vm0) (hEL : EW Z a0 EL) (hK : cells ≤ K) (hN : slots ≤ N) (eT : T.heap = h)
    {v : Option Value} (hv : meth.sig.returnType = none → v = none) (hQ : Q v h locs)
    (run : ∀ fs, (∀ (f : JFrame) (acts : List Action), f.method = m → f.locked = none → f.entered = [] → (doReturn e (T.setTop f) acts v).1 = T.setFrames fs) → Steps p.tables e below (T.setTop g) (T.setFrames fs)) : Go p.tables e below (FinS s Z EL h0 Q K N) T g := by
  obtain ⟨fs, hr, hrun, hended, hE⟩ := Stand.leaveW (s := s) (vm₁ := vm0) X hS (by rw [eT]; exact hk) (v := v) hv hlk
  have hh : (T.setFrames fs).heap = h := eT
  refine ⟨_, _, run fs hr, hrun, hended, v, locs, rfl, by rw [hh]; exact hQ, ?_, hE.1, hE.2.1, hE.2.2.1, hE.2.2.2.mono hK hN⟩
  rw [hh]
  show CHr Z EL s.vm h0 T.vm h
  exact A.trans (CHv.at X hZ hEL A.1)
theorem Go.retNS {Q : Option Value → Heap → List Loc → Prop} {K N : Nat} (X : Stand p l e R (s.setVm vm0) m args below meth c T locs cells slots) (hx : p.tables.exec = Jvm.exec) (hlk : meth.locks = false) (hS : s.Since vm0 k0) (hk : k0 ≤ h.size) (A : CHr Z EL s.vm h0 vm0 h) (hZ : Z.Warmed39 vm0) (hEL : EW Z a0 EL) {pc : Nat} {Ls : Array Slot} {z : Int32} {t : FieldType} {rest : List Value} (hret : meth.sig.returnType = some t)
    (hn : narrow t (.int z) = .int z) (ht : t = .int ∨ t = .boolean ∨ t = .byte ∨ t = .char ∨ t = .short) (hd : decode c.code pc = .ok (.ireturn, 1)) (hK : cells ≤ K) (hN : slots ≤ N) (eT : T.heap = h) (hQ : Q (some (.int z)) h locs) : Go p.tables e below (FinS s Z EL h0 Q K N) T (mkF m pc Ls (.int z :: rest)) :=
  Go.endS X hlk hS hk A hZ hEL hK hN eT (fun q => by rw [hret] at q; cases q) hQ fun _ hr => retOut X hx hret hn (Or.inl ⟨rfl, ht, z, rfl⟩) hd hr
theorem Go.retAS {Q : Option Value → Heap → List Loc → Prop} {K N : Nat} (X : Stand p l e R (s.setVm vm0) m args below meth c T locs cells slots) (hx : p.tables.exec = Jvm.exec) (hlk : meth.locks = false) (hS : s.Since vm0 k0) (hk : k0 ≤ h.size) (A : CHr Z EL s.vm h0 vm0 h) (hZ : Z.Warmed39 vm0) (hEL : EW Z a0 EL) {pc : Nat} {Ls : Array Slot} {w : Value} {t : FieldType} {rest : List Value} (hret : meth.sig.returnType = some t)
    (ht : t.isReference = true) (hw : w.isRef = true) (hd : decode c.code pc = .ok (.areturn, 1)) (hK : cells ≤ K) (hN : slots ≤ N) (eT : T.heap = h) (hQ : Q (some w) h locs) : Go p.tables e below (FinS s Z EL h0 Q K N) T (mkF m pc Ls (w :: rest)) :=
  Go.endS X hlk hS hk A hZ hEL hK hN eT (fun q => by rw [hret] at q; cases q) hQ fun _ hr => retOut X hx hret (narrow_ref ht) (Or.inr (Or.inr (Or.inr (Or.inr ⟨rfl, ht, hw⟩)))) hd hr
theorem Go.retVS {Q : Option Value → Heap → List Loc → Prop} {K N : Nat} (X : Stand p l e R (s.setVm vm0) m args below meth c T locs cells slots) (hx : p.tables.exec = Jvm.exec) (hlk : meth.locks = false) (hS : s.Since vm0 k0) (hk : k0 ≤ h.size) (A : CHr Z EL s.vm h0 vm0 h) (hZ : Z.Warmed39 vm0) (hEL : EW Z a0 EL) {pc : Nat} {Ls : Array Slot} (hret : meth.sig.returnType = none)
    (hd : decode c.code pc = .ok (.return_, 1)) (hK : cells ≤ K) (hN : slots ≤ N) (eT : T.heap = h) (hQ : Q none h locs) : Go p.tables e below (FinS s Z EL h0 Q K N) T (mkF m pc Ls []) :=
  Go.endS X hlk hS hk A hZ hEL hK hN eT (fun _ => rfl) hQ fun _ hr => X.returnOut hx hret hd hr
/-- a body's contract where it may intern: the booked constants say their texts before and behind it -/
def ConS (l : Launch) (Z : State) (EL : List (String × Nat)) (y : MethodName) (bytes : ByteArray) (maxL : Nat) (ret : Option FieldType) (ws : List Cond) (rm : Room) (as' : Array Value) (h0 : Heap) (sl : List Addr) (Q : Option Value → Heap → List Loc → Prop) : Prop :=
  MetFree l y (head1 (Cond.code y bytes maxL ret :: ws) rm) (fun a U => a = as' ∧ Z.Warmed39 U.vm ∧ U.heap = h0 ∧ CHv Z EL U.vm h0 ∧ ∀ x ∈ sl, Safe Z EL U.vm h0 x) (fun _ _ _ _ _ => True) (fun _ U o U' => ∃ v L, o = .returned v ∧ Q v U'.heap L ∧ CHr Z EL U.vm U.heap U'.vm U'.heap ∧ ReturnedEndW U o U' L rm.cells rm.slots)
theorem ConS.enter {y : MethodName} {bytes : ByteArray} {maxL : Nat} {ret : Option FieldType} {ws : List Cond} {rm : Room} {as' : Array Value} {h0 : Heap} {sl : List Addr} {Q : Option Value → Heap → List Loc → Prop} (hp : plainFor y = true)
    (H : ∀ (p : Program) (e : Env) (s : State) (m : MethodId) (below : List Frame) (meth : Method) (c : Code) (s₁ : State), Stand p l e rm (s.setVm s.vm) m as' below meth c s₁ [] 0 0 → p.tables.exec = Jvm.exec → Z.Warmed39 s.vm → c.code = bytes → c.maxLocals = maxL → meth.sig.returnType = ret → meth.locks = false → s.vm.findClass y.cls = some m.cls → meth.name = y.name → s₁.heap = h0 → s.Since s.vm 0 → CHr Z EL s.vm h0 s.vm h0 → (∀ x ∈ sl, Safe Z EL s.vm h0 x) →
      Go p.tables e below (FinS s Z EL h0 Q rm.cells rm.slots) s₁ (entryFrame m as' maxL)) : ConS l Z EL y bytes maxL ret ws rm as' h0 sl Q := by
  refine MetFree.of_bodySF hp hisR ?_
  intro p e s m args below meth c s₁ Bd hml0 hP hK
  obtain ⟨rfl, hZ, hh, hC, hsf⟩ := hP
  obtain ⟨u, o, g1, g2, g3, v, L, g4, g5, g6, g7⟩ := H p e s m below meth c s₁ (Stand.of_body Bd) Bd.exec hZ Bd.bytes hml0 Bd.returns Bd.notSynchronized (findClass_of_methodNamed Bd.named) (name_of_methodNamed Bd.named Bd.method).1 (by rw [← hh, Bd.state]; rfl) ((State.WarmedH.refl s).since 0) (CHr.refl hC) hsf
  exact ⟨u, o, g1, g2, g3, v, L, g4, g5, by rw [hh]; exact g6, g7⟩
variable {y z : MethodName} {bytes : ByteArray} {maxL : Nat} {ret : Option FieldType} {rm : Room} {as' : Array Value} {sl : List Addr} {Q : Option Value → Heap → List Loc → Prop} {W len : Nat} {own C owner : String} {index : Nat} {argsL rest : List Value}
theorem backSL (hM : ConS l Z EL y bytes maxL ret [] rm as' h sl Q) (hZ : Z.Warmed39 vm0) (wc : (Cond.code y bytes maxL ret).before a0 Z = true) (wz : (Cond.initialized y.cls).before a0 Z = true) (hf : rm.frames + 1 ≤ R.frames) (hl : W + (maxL + 11) + rm.locals ≤ R.locals) (hEL : EW Z a0 EL) (H : CHv Z EL vm0 h) (hsf : ∀ x ∈ sl, x < h.size ∧ Safe Z EL vm0 h x) :
    BackS l R p e below (s.setVm vm0) args y len W (fun A a => a = as' ∧ A.U.heap = h ∧ A.cells + rm.cells ≤ R.cells ∧ A.slots + rm.slots ≤ R.slots)
      (fun A _ v B => ∃ L, Q v B.U.heap L ∧ B.locs = A.locs ++ L ∧ B.cells = A.cells + rm.cells ∧ B.slots = A.slots + rm.slots ∧ CHr Z EL vm0 h B.U.vm B.U.heap) := by
  refine BackS.of_freeW (bytes := bytes) (maxL := maxL) (ret := ret) (E := fun _ first o t L k n => k = rm.cells ∧ n = rm.slots ∧ (∃ v, o = .returned v ∧ Q v t.heap L) ∧ CHr Z EL first.vm first.heap t.vm t.heap) hM hf hl ?_ ?_ (fun _ _ _ _ _ _ _ _ _ => trivial) ?_ ?_
  · intro m meth c A a Y hp
    have hU : Z.Warmed39 A.U.vm := wtrans (s := s.setVm vm0) hZ Y.warmed
    exact ⟨by show (Cond.and _ .tt).before a A.U = true; rw [Cond.before_and, mv hU wc]; rfl, mv hU wc, mv hU wz, hp.2.2.1, hp.2.2.2⟩
  · intro m meth c A a g mk Y hp
    have q := CHv.at Y hZ hEL H
    exact ⟨hp.1, wtrans (s := s.setVm vm0) hZ Y.warmed, hp.2.1, q.1, fun x hx => q.safe (hsf x hx).1 (hsf x hx).2⟩
  · rintro _ _ _ _ ⟨v, L, h1, h2, h3, h4⟩
    exact ⟨L, _, _, h4, rfl, rfl, ⟨v, h1, h2⟩, h3⟩
  · rintro m meth c A a g mk v t L k n Y hp _ _ ⟨e1, e2, ⟨v', e3, e4⟩, e5⟩
    cases e3; subst e1 e2
    refine ⟨L, e4, rfl, rfl, rfl, (CHv.at Y hZ hEL H).trans ?_⟩
    rw [← hp.2.1]; exact e5
theorem Go.backS {n : Nat} (hZ : Z.Warmed39 vm0) (hown : vm0.findClass own = some m.cls) (hS : s.Since vm0 k0) (hk : k0 ≤ h.size) (eT : T.heap = h)
    (H : ∃ (v : Option Value) (vm₁ : Vm) (B : Pt), (s.setVm vm0).WarmedH vm₁ ∧ Stand p l e R ((s.setVm vm0).setVm B.U.vm) m args below meth c B.U B.locs B.cells B.slots ∧ (s.setVm vm0).Since B.U.vm B.U.heap.size ∧ T.heap.size ≤ B.U.heap.size ∧ (∃ L, Q v B.U.heap L ∧ B.locs = locs ++ L ∧ B.cells = cells + rm.cells ∧ B.slots = slots + rm.slots ∧ CHr Z EL vm0 h B.U.vm B.U.heap) ∧
      Steps p.tables e below (T.setTop g) (B.U.setTop { g with pc := g.pc + n, stack := v.toList ++ rest }))
    (k : ∀ (v : Option Value) (T' : State) (h' : Heap) (L : List Loc), Stand p l e R (s.setVm T'.vm) m args below meth c T' (locs ++ L) (cells + rm.cells) (slots + rm.slots) → T'.heap = h' → Q v h' L → s.Since T'.vm h'.size → Z.Warmed39 T'.vm → T'.vm.findClass own = some m.cls → CHr Z EL vm0 h T'.vm h' → Go p.tables e below P T' { g with pc := g.pc + n, stack := v.toList ++ rest }) : Go p.tables e below P T g := by
  obtain ⟨v, _, ⟨U, L1, k1, n1⟩, -, X', hS2, hge, ⟨L, hQ, e1, e2, e3, hC⟩, st⟩ := H
  have e1' : L1 = locs ++ L := e1
  have e2' : k1 = cells + rm.cells := e2
  have e3' : n1 = slots + rm.slots := e3
  subst e1' e2' e3'
  exact Go.tr st (k v U _ L X' rfl hQ (foldS (T := T) hS (by rw [eT]; exact hk) hS2 hge) (State.Warmed39.trans (t := s.setVm vm0) hZ hS2.1) (by rw [hS2.1.alike.findClass]; exact hown) hC)
theorem Go.callStS (X : Stand p l e R (s.setVm vm0) m args below meth c T locs cells slots) (hx : p.tables.exec = Jvm.exec) (hZ : Z.Warmed39 vm0) (hown : vm0.findClass own = some m.cls) (eT : T.heap = h) (hEL : EW Z a0 EL) (HC : CHv Z EL vm0 h) (hS : s.Since vm0 k0) (hk : k0 ≤ h.size)
    (w1 : (Cond.methodLink own index y).before a0 Z = true) (w2 : (Cond.static y).before a0 Z = true) (w3 : (Cond.initialized y.cls).before a0 Z = true) (w4 : (Cond.code y bytes maxL ret).before a0 Z = true) (hy : y.cls ≠ "java/lang/invoke/MethodHandle" ∧ y.cls ≠ "java/lang/invoke/VarHandle")
    (hM : ConS l Z EL y bytes maxL ret [] rm as' h sl Q) (hsf : ∀ x ∈ sl, x < h.size ∧ Safe Z EL vm0 h x) (ha : argsL.toArray = as') (hlen : ∀ sig, parseMethodDescriptor y.desc = some sig → argsL.length = sig.parameters.length) (hg : g.method = m) (hsize : g.locals.size = c.maxLocals) (hst : g.stack = argsL.reverse ++ rest)
    (hW : 2 * g.monitorRoom + (rest.map fun v => v.category).sum ≤ W) (hf : rm.frames + 1 ≤ R.frames) (hl : W + (maxL + 11) + rm.locals ≤ R.locals) (hc : cells + rm.cells ≤ R.cells) (hs : slots + rm.slots ≤ R.slots) (hd : decode c.code g.pc = .ok (.invokestatic index, 3))
    (k : ∀ (v : Option Value) (T' : State) (h' : Heap) (L : List Loc), Stand p l e R (s.setVm T'.vm) m args below meth c T' (locs ++ L) (cells + rm.cells) (slots + rm.slots) → T'.heap = h' → Q v h' L → s.Since T'.vm h'.size → Z.Warmed39 T'.vm → T'.vm.findClass own = some m.cls → CHr Z EL vm0 h T'.vm h' → Go p.tables e below P T' { g with pc := g.pc + 3, stack := v.toList ++ rest }) : Go p.tables e below P T g :=
  Go.backS hZ hown hS hk eT (callSS X hx (y := y) (bytes := bytes) (maxL := maxL) (ret := ret) hown (mvT (s := s.setVm vm0) hZ w1) (mvT (s := s.setVm vm0) hZ w2) (mvT (s := s.setVm vm0) hZ w3) (mvT (s := s.setVm vm0) hZ w4) hy (backSL (W := W) (a0 := a0) hM hZ w4 w3 hf hl hEL HC hsf) (g := g) hg hsize (argsL := argsL) (rest := rest) hlen hst hW hd (fun _ _ => ⟨ha, eT, hc, hs⟩)) k
theorem Go.callSpS (X : Stand p l e R (s.setVm vm0) m args below meth c T locs cells slots) (hx : p.tables.exec = Jvm.exec) (hZ : Z.Warmed39 vm0) (hown : vm0.findClass own = some m.cls) (eT : T.heap = h) (hEL : EW Z a0 EL) (HC : CHv Z EL vm0 h) (hS : s.Since vm0 k0) (hk : k0 ≤ h.size) (hy1 : y.name = "<init>")
    (w1 : (Cond.methodLink own index y).before a0 Z = true) (w2 : (Cond.instanceMethod y).before a0 Z = true) (w3 : (Cond.initialized y.cls).before a0 Z = true) (w4 : (Cond.code y bytes maxL none).before a0 Z = true) (hy : y.cls ≠ "java/lang/invoke/MethodHandle" ∧ y.cls ≠ "java/lang/invoke/VarHandle")
    {a : Addr} (hM : ConS l Z EL y bytes maxL none [] rm as' h sl Q) (hsf : ∀ x ∈ sl, x < h.size ∧ Safe Z EL vm0 h x) (ha : (Value.ref a :: argsL).toArray = as') (hlen : ∀ sig, parseMethodDescriptor y.desc = some sig → argsL.length = sig.parameters.length) (hg : g.method = m) (hsize : g.locals.size = c.maxLocals) (hst : g.stack = argsL.reverse ++ .ref a :: rest)
    (hW : 2 * g.monitorRoom + (rest.map fun v => v.category).sum ≤ W) (hf : rm.frames + 1 ≤ R.frames) (hl : W + (maxL + 11) + rm.locals ≤ R.locals) (hc : cells + rm.cells ≤ R.cells) (hs : slots + rm.slots ≤ R.slots) (hd : decode c.code g.pc = .ok (.invokespecial index, 3))
    (k : ∀ (v : Option Value) (T' : State) (h' : Heap) (L : List Loc), Stand p l e R (s.setVm T'.vm) m args below meth c T' (locs ++ L) (cells + rm.cells) (slots + rm.slots) → T'.heap = h' → Q v h' L → s.Since T'.vm h'.size → Z.Warmed39 T'.vm → T'.vm.findClass own = some m.cls → CHr Z EL vm0 h T'.vm h' → Go p.tables e below P T' { g with pc := g.pc + 3, stack := v.toList ++ rest }) : Go p.tables e below P T g :=
  Go.backS hZ hown hS hk eT (X.specialBackS hx (y := y) hy1 hown (mvT (s := s.setVm vm0) hZ w1) (mvT (s := s.setVm vm0) hZ w2) (mvT (s := s.setVm vm0) hZ w4) hy (backSL (W := W) (a0 := a0) hM hZ w4 w3 hf hl hEL HC hsf) (g := g) hg hsize (Steps.refl _) (a := a) (argsL := argsL) (rest := rest) hlen hst hW hd (fun _ _ => ⟨ha, eT, hc, hs⟩)) k
theorem Go.callVS (X : Stand p l e R (s.setVm vm0) m args below meth c T locs cells slots) (hx : p.tables.exec = Jvm.exec) (hZ : Z.Warmed39 vm0) (hown : vm0.findClass own = some m.cls) (eT : T.heap = h) (hEL : EW Z a0 EL) (HC : CHv Z EL vm0 h) (hS : s.Since vm0 k0) (hk : k0 ≤ h.size)
    (w1 : (Cond.methodLink own index y).before a0 Z = true) (w2 : (Cond.declares y).before a0 Z = true) (w5 : (Cond.selects C y z).before a0 Z = true) (w6 : (Cond.instanceMethod z).before a0 Z = true) (w3 : (Cond.initialized z.cls).before a0 Z = true) (w4 : (Cond.code z bytes maxL ret).before a0 Z = true)
    (hnf : NotFace (s.setVm vm0) y) (hy : y.cls ≠ "java/lang/invoke/MethodHandle" ∧ y.cls ≠ "java/lang/invoke/VarHandle")
    {a : Addr} (E : Exa Z h a C) (hM : ConS l Z EL z bytes maxL ret [] rm as' h sl Q) (hsf : ∀ x ∈ sl, x < h.size ∧ Safe Z EL vm0 h x) (ha : (Value.ref a :: argsL).toArray = as') (hlen : ∀ sig, parseMethodDescriptor y.desc = some sig → argsL.length = sig.parameters.length) (hg : g.method = m) (hsize : g.locals.size = c.maxLocals) (hst : g.stack = argsL.reverse ++ .ref a :: rest)
    (hW : 2 * g.monitorRoom + (rest.map fun v => v.category).sum ≤ W) (hf : rm.frames + 1 ≤ R.frames) (hl : W + (maxL + 11) + rm.locals ≤ R.locals) (hc : cells + rm.cells ≤ R.cells) (hs : slots + rm.slots ≤ R.slots) (hd : decode c.code g.pc = .ok (.invokevirtual index, 3))
    (k : ∀ (v : Option Value) (T' : State) (h' : Heap) (L : List Loc), Stand p l e R (s.setVm T'.vm) m args below meth c T' (locs ++ L) (cells + rm.cells) (slots + rm.slots) → T'.heap = h' → Q v h' L → s.Since T'.vm h'.size → Z.Warmed39 T'.vm → T'.vm.findClass own = some m.cls → CHr Z EL vm0 h T'.vm h' → Go p.tables e below P T' { g with pc := g.pc + 3, stack := v.toList ++ rest }) : Go p.tables e below P T g := by
  obtain ⟨cq, kq, qa, qb, qc⟩ := isOf (s := s.setVm vm0) hZ eT E
  exact Go.backS hZ hown hS hk eT (X.virtualBackS hx (y := y) (z := z) hown (mvT (s := s.setVm vm0) hZ w1) (mvT (s := s.setVm vm0) hZ w2) hnf (mvT (s := s.setVm vm0) hZ w5) (mvT (s := s.setVm vm0) hZ w6) hy (backSL (W := W) (a0 := a0) hM hZ w4 w3 hf hl hEL HC hsf) qa qc (g := g) hg hsize (Steps.refl _) (argsL := argsL) (rest := rest) hlen hst hW hd (fun _ _ => ⟨ha, eT, hc, hs⟩)) k
theorem chrE {vm1 : Vm} (A : CHr Z EL vm0 h0 vm1 h) (E : Ext h h') : CHr Z EL vm0 h0 vm1 h' := A.trans (CHr.ext E A.1)
theorem chrW {vm1 : Vm} {a : Addr} {sl : Nat} {v : Value} (A : CHr Z EL vm0 h0 vm1 h) (W : Wr h h' a sl v) (S : Safe Z EL vm1 h a) : CHr Z EL vm0 h0 vm1 h' := A.trans (CHr.wr W S A.1)
theorem chrK {vm1 : Vm} {ws : List Addr} (A : CHr Z EL vm0 h0 vm1 h) (K : Keep h h' ws) (S : ∀ x ∈ ws, Safe Z EL vm1 h x) : CHr Z EL vm0 h0 vm1 h' := A.trans (CHr.keep K S A.1)
end OwnS
end Jvm.RoadKit
namespace Jvm.Pilot.@@N@@
open Jvm Jvm.ClassFile Sem Op Lib Jvm.Free Jvm.Stand Jvm.LawKit Jvm.RoadKit Bundle Jvm.Pilot.@@N@@.Jvm.D
def EL0 : List (String × Nat) := [("com/example/patience/patience/language/Action", 7), ("com/example/patience/patience/language/Variable", 7), ("java/lang/String", 7)]
theorem w18 {a0 : Array Value} {Z : State} (hw : ∀ d ∈ tables_1, d.before a0 Z = true) : ((Jvm.Cond.stringLink "java/lang/String" (7 : Nat) "")).before a0 Z = true := hw _ (List.mem_of_getElem? (i := 18) rfl)
theorem w33 {a0 : Array Value} {Z : State} (hw : ∀ d ∈ tables_1, d.before a0 Z = true) : ((Jvm.Cond.stringLink "com/example/patience/patience/language/Variable" (7 : Nat) "name")).before a0 Z = true := hw _ (List.mem_of_getElem? (i := 33) rfl)
theorem w83 {a0 : Array Value} {Z : State} (hw : ∀ d ∈ tables_1, d.before a0 Z = true) : ((Jvm.Cond.stringLink "com/example/patience/patience/language/Action" (7 : Nat) "name")).before a0 Z = true := hw _ (List.mem_of_getElem? (i := 83) rfl)
theorem hEL0 {a0 : Array Value} {Z : State} (hw : ∀ d ∈ tables_1, d.before a0 Z = true) : EW Z a0 EL0 := (EW.cons (w83 hw) (by decide) (EW.cons (w33 hw) (by decide) (EW.cons (w18 hw) (by decide) EW.nil)))
theorem hSt0 {a0 : Array Value} {Z : State} (hw : ∀ d ∈ tables_1, d.before a0 Z = true) : ∀ a ∈ Bundle.stringAtoms, a.before a0 Z = true := fun d hd => hw d ((by decide +kernel : ∀ d ∈ Bundle.stringAtoms, d ∈ tables_1) d hd)
theorem own_oflt {i n : Nat} (h : i < n) (hn : n < 2 ^ 31) : Int32.ofNat i < Int32.ofNat n := by
  rw [Int32.lt_iff_toInt_lt, Int32.toInt_ofNat_of_lt (by omega), Int32.toInt_ofNat_of_lt (by omega)]; omega
theorem own_ofnl {i n : Nat} (h : ¬ i < n) (hi : i < 2 ^ 31) (hn : n < 2 ^ 31) : ¬ Int32.ofNat i < Int32.ofNat n := by
  rw [Int32.lt_iff_toInt_lt, Int32.toInt_ofNat_of_lt (by omega), Int32.toInt_ofNat_of_lt (by omega)]; omega
theorem own_ofn0 {i : Nat} (hi : i < 2 ^ 31) : ¬ Int32.ofNat i < 0 := by
  rw [Int32.lt_iff_toInt_lt, Int32.toInt_ofNat_of_lt (by omega)]; have : (0 : Int32).toInt = 0 := rfl; omega
theorem own_ofinj {i n : Nat} (hi : i < 2 ^ 31) (hn : n < 2 ^ 31) (h : Int32.ofNat i = Int32.ofNat n) : i = n := by
  have q := congrArg Int32.toInt h
  rw [Int32.toInt_ofNat_of_lt (by omega), Int32.toInt_ofNat_of_lt (by omega)] at q; omega
theorem own_clamp {i : Nat} (hi : i < 2 ^ 31) : (Int32.ofNat i).toNatClampNeg = i := by
  have q : (Int32.ofNat i).toInt = i := Int32.toInt_ofNat_of_lt (by omega)
  simp [Int32.toNatClampNeg, q]
theorem own_getD (bs : List Int32) (i : Nat) : (bs.map Value.int).getD i (.int (0 : Int32)) = .int (bs.getD i 0) := by
  simp only [List.getD_eq_getElem?_getD, List.getElem?_map]
  cases bs[i]? <;> rfl
theorem own_take {bs ds : List Int32} {i : Nat} (h1 : i < bs.length) (h2 : i < ds.length) (h : bs.take i = ds.take i) (q : bs.getD i 0 = ds.getD i 0) : bs.take (i + 1) = ds.take (i + 1) := by
  have a1 : bs.getD i 0 = bs[i] := by simp [List.getD_eq_getElem?_getD, h1]
  have a2 : ds.getD i 0 = ds[i] := by simp [List.getD_eq_getElem?_getD, h2]
  rw [List.take_succ_eq_append_getElem h1, List.take_succ_eq_append_getElem h2, h, ← a1, ← a2, q]
theorem own_one (i : Nat) : Int32.ofNat i + (1 : Int32) = Int32.ofNat (i + 1) := (Int32.ofNat_add i 1).symm
theorem d12_0 : decode jdk_43_method_13_code 0 = .ok (.aload_n 0, 1) := by decide +kernel
theorem d12_1 : decode jdk_43_method_13_code 1 = .ok (.arraylength, 1) := by decide +kernel
theorem d12_2 : decode jdk_43_method_13_code 2 = .ok (.aload_n 1, 1) := by decide +kernel
theorem d12_3 : decode jdk_43_method_13_code 3 = .ok (.arraylength, 1) := by decide +kernel
theorem d12_4 : decode jdk_43_method_13_code 4 = .ok (.if_icmp .ne 30, 3) := by decide +kernel
theorem d12_7 : decode jdk_43_method_13_code 7 = .ok (.iconst 0, 1) := by decide +kernel
theorem d12_8 : decode jdk_43_method_13_code 8 = .ok (.istore_n 2, 1) := by decide +kernel
theorem d12_9 : decode jdk_43_method_13_code 9 = .ok (.iload_n 2, 1) := by decide +kernel
theorem d12_10 : decode jdk_43_method_13_code 10 = .ok (.aload_n 0, 1) := by decide +kernel
theorem d12_11 : decode jdk_43_method_13_code 11 = .ok (.arraylength, 1) := by decide +kernel
theorem d12_12 : decode jdk_43_method_13_code 12 = .ok (.if_icmp .ge 20, 3) := by decide +kernel
theorem d12_32 : decode jdk_43_method_13_code 32 = .ok (.iconst 1, 1) := by decide +kernel
theorem d12_33 : decode jdk_43_method_13_code 33 = .ok (.ireturn, 1) := by decide +kernel
theorem d12_15 : decode jdk_43_method_13_code 15 = .ok (.aload_n 0, 1) := by decide +kernel
theorem d12_16 : decode jdk_43_method_13_code 16 = .ok (.iload_n 2, 1) := by decide +kernel
theorem d12_17 : decode jdk_43_method_13_code 17 = .ok (.baload, 1) := by decide +kernel
theorem d12_18 : decode jdk_43_method_13_code 18 = .ok (.aload_n 1, 1) := by decide +kernel
theorem d12_19 : decode jdk_43_method_13_code 19 = .ok (.iload_n 2, 1) := by decide +kernel
theorem d12_20 : decode jdk_43_method_13_code 20 = .ok (.baload, 1) := by decide +kernel
theorem d12_21 : decode jdk_43_method_13_code 21 = .ok (.if_icmp .eq 5, 3) := by decide +kernel
theorem d12_26 : decode jdk_43_method_13_code 26 = .ok (.iinc 2 1, 3) := by decide +kernel
theorem d12_29 : decode jdk_43_method_13_code 29 = .ok (.goto (-20), 3) := by decide +kernel
theorem d12_24 : decode jdk_43_method_13_code 24 = .ok (.iconst 0, 1) := by decide +kernel
theorem d12_25 : decode jdk_43_method_13_code 25 = .ok (.ireturn, 1) := by decide +kernel
theorem d12_34 : decode jdk_43_method_13_code 34 = .ok (.iconst 0, 1) := by decide +kernel
theorem d12_35 : decode jdk_43_method_13_code 35 = .ok (.ireturn, 1) := by decide +kernel
def rr_eqLatin : Room := { frames := 0, cells := 0, slots := 0, locals := 0 }
theorem pn0 : plainName "java/lang/StringLatin1" = true := by first | (simp [plainName, overriddenIn]; done) | decide +kernel
set_option maxRecDepth 65536 in
set_option maxHeartbeats 40000000 in
theorem rm_eqLatin (l : Launch) (Z : State) (a0 : Array Value) (hw : ∀ d ∈ tables_1, d.before a0 Z = true) (ws : List Jvm.Cond) (t u : Addr) (k k' : ClassId) (bs ds : List Int32) (h0 : Heap) (n0 : Nat) (Z0 : n0 ≤ h0.size) (V1 : Arv Z h0 t k .byte (Int32.ofNat bs.length) (bs.map Value.int) (.int (0 : Int32))) (V2 : Arv Z h0 u k' .byte (Int32.ofNat ds.length) (ds.map Value.int) (.int (0 : Int32))) (lb : bs.length < 2 ^ 31) (ld : ds.length < 2 ^ 31) :
    Con l Z (⟨"java/lang/StringLatin1", "equals", "([B[B)Z"⟩ : MethodName) jdk_43_method_13_code 3 (some .boolean) ws rr_eqLatin #[(.ref t), (.ref u)] h0 (fun v h L => ∃ r : Int32, v = some (.int r) ∧ ((r = 1 ∧ bs = ds) ∨ (r = 0 ∧ ¬ bs = ds)) ∧ Fr n0 L ∧ h = h0) := by
  refine Con.enter (plainFor_of_name pn0) ?_
  intro p e s m below meth c s₁ X0 hx hZ hby hml hret hlk hown hnm e0
  have N0 := Fr.nil n0
  refine Go.cast (g' := (mkF m 0 #[.val (.ref t), .val (.ref u), .unset] [])) (by first | rfl | (simp [entryFrame, mkF, argsToLocals, Value.category]; done)) ?_
  refine Go.st (T' := s₁) (g' := (mkF m 1 #[.val (.ref t), .val (.ref u), .unset] [(.ref t)])) (fun _ zk => XS.aloadN X0.here hx rfl (hb hby d12_0) rfl rfl zk) ?_
  refine Go.st (T' := s₁) (g' := (mkF m 2 #[.val (.ref t), .val (.ref u), .unset] [(.int (Int32.ofNat bs.length))])) (fun _ zk => lenV X0 hx hZ e0 V1 (g := (mkF m 1 #[.val (.ref t), .val (.ref u), .unset] [(.ref t)])) rfl (rest := []) rfl (hb hby d12_1) zk) ?_
  refine Go.st (T' := s₁) (g' := (mkF m 3 #[.val (.ref t), .val (.ref u), .unset] [(.ref u), (.int (Int32.ofNat bs.length))])) (fun _ zk => XS.aloadN X0.here hx rfl (hb hby d12_2) rfl rfl zk) ?_
  refine Go.st (T' := s₁) (g' := (mkF m 4 #[.val (.ref t), .val (.ref u), .unset] [(.int (Int32.ofNat ds.length)), (.int (Int32.ofNat bs.length))])) (fun _ zk => lenV X0 hx hZ e0 V2 (g := (mkF m 3 #[.val (.ref t), .val (.ref u), .unset] [(.ref u), (.int (Int32.ofNat bs.length))])) rfl (rest := [(.int (Int32.ofNat bs.length))]) rfl (hb hby d12_3) zk) ?_
  by_cases hc4 : (Int32.ofNat bs.length) = (Int32.ofNat ds.length)
  · refine Go.st (T' := s₁) (g' := (mkF m 7 #[.val (.ref t), .val (.ref u), .unset] [])) (fun _ zk => XS.icmpNo X0.here hx rfl (hb hby d12_4) rfl (teq hc4).2 zk) ?_
    have hl : bs.length = ds.length := own_ofinj lb ld hc4
    refine Go.st (T' := s₁) (g' := (mkF m 8 #[.val (.ref t), .val (.ref u), .unset] [(.int (0 : Int32))])) (fun _ zk => XS.iconst X0.here hx rfl (hb hby d12_7) zk) ?_
    refine Go.st (T' := s₁) (g' := (mkF m 9 #[.val (.ref t), .val (.ref u), .val (.int (0 : Int32))] [])) (fun _ zk => XS.istoreN X0.here hx rfl (hb hby d12_8) rfl (l' := #[.val (.ref t), .val (.ref u), .val (.int (0 : Int32))]) rfl zk) ?_
    have loop : ∀ (q i : Nat), i + q = bs.length → bs.take i = ds.take i → Go p.tables e below (FinP s (fun v h L => ∃ r : Int32, v = some (.int r) ∧ ((r = 1 ∧ bs = ds) ∨ (r = 0 ∧ ¬ bs = ds)) ∧ Fr n0 L ∧ h = h0) rr_eqLatin.cells rr_eqLatin.slots) s₁ (mkF m 9 #[.val (.ref t), .val (.ref u), .val (.int (Int32.ofNat i))] []) := by
      intro q
      induction q with
      | zero =>
        intro i hi ht
        refine Go.st (T' := s₁) (g' := (mkF m 10 #[.val (.ref t), .val (.ref u), .val (.int (Int32.ofNat i))] [(.int (Int32.ofNat i))])) (fun _ zk => XS.iloadN X0.here hx rfl (hb hby d12_9) rfl zk) ?_
        refine Go.st (T' := s₁) (g' := (mkF m 11 #[.val (.ref t), .val (.ref u), .val (.int (Int32.ofNat i))] [(.ref t), (.int (Int32.ofNat i))])) (fun _ zk => XS.aloadN X0.here hx rfl (hb hby d12_10) rfl rfl zk) ?_
        refine Go.st (T' := s₁) (g' := (mkF m 12 #[.val (.ref t), .val (.ref u), .val (.int (Int32.ofNat i))] [(.int (Int32.ofNat bs.length)), (.int (Int32.ofNat i))])) (fun _ zk => lenV X0 hx hZ e0 V1 (g := (mkF m 11 #[.val (.ref t), .val (.ref u), .val (.int (Int32.ofNat i))] [(.ref t), (.int (Int32.ofNat i))])) rfl (rest := [(.int (Int32.ofNat i))]) rfl (hb hby d12_11) zk) ?_
        refine Go.st (T' := s₁) (g' := (mkF m 32 #[.val (.ref t), .val (.ref u), .val (.int (Int32.ofNat i))] [])) (fun _ zk => XS.icmpYes X0.here hx rfl (pc0 := 12) (pc' := 32) rfl (hb hby d12_12) rfl (flt (own_ofnl (by omega) (by omega) (by omega) : ¬ ((Int32.ofNat i) < (Int32.ofNat bs.length)))).2.1 (by decide) (by decide) zk) ?_
        refine Go.st (T' := s₁) (g' := (mkF m 33 #[.val (.ref t), .val (.ref u), .val (.int (Int32.ofNat i))] [(.int (1 : Int32))])) (fun _ zk => XS.iconst X0.here hx rfl (hb hby d12_32) zk) ?_
        refine Go.retN X0 hx hlk hret rfl (by simp) (hb hby d12_33) (by decide) (by decide) e0 ?_
        rw [List.take_of_length_le (by omega), List.take_of_length_le (by omega)] at ht
        exact ⟨_, rfl, Or.inl ⟨rfl, ht⟩, N0, rfl⟩
      | succ q ih =>
        intro i hi ht
        refine Go.st (T' := s₁) (g' := (mkF m 10 #[.val (.ref t), .val (.ref u), .val (.int (Int32.ofNat i))] [(.int (Int32.ofNat i))])) (fun _ zk => XS.iloadN X0.here hx rfl (hb hby d12_9) rfl zk) ?_
        refine Go.st (T' := s₁) (g' := (mkF m 11 #[.val (.ref t), .val (.ref u), .val (.int (Int32.ofNat i))] [(.ref t), (.int (Int32.ofNat i))])) (fun _ zk => XS.aloadN X0.here hx rfl (hb hby d12_10) rfl rfl zk) ?_
        refine Go.st (T' := s₁) (g' := (mkF m 12 #[.val (.ref t), .val (.ref u), .val (.int (Int32.ofNat i))] [(.int (Int32.ofNat bs.length)), (.int (Int32.ofNat i))])) (fun _ zk => lenV X0 hx hZ e0 V1 (g := (mkF m 11 #[.val (.ref t), .val (.ref u), .val (.int (Int32.ofNat i))] [(.ref t), (.int (Int32.ofNat i))])) rfl (rest := [(.int (Int32.ofNat i))]) rfl (hb hby d12_11) zk) ?_
        refine Go.st (T' := s₁) (g' := (mkF m 15 #[.val (.ref t), .val (.ref u), .val (.int (Int32.ofNat i))] [])) (fun _ zk => XS.icmpNo X0.here hx rfl (hb hby d12_12) rfl (tlt (own_oflt (by omega) (by omega) : (Int32.ofNat i) < (Int32.ofNat bs.length))).2.1 zk) ?_
        refine Go.st (T' := s₁) (g' := (mkF m 16 #[.val (.ref t), .val (.ref u), .val (.int (Int32.ofNat i))] [(.ref t)])) (fun _ zk => XS.aloadN X0.here hx rfl (hb hby d12_15) rfl rfl zk) ?_
        refine Go.st (T' := s₁) (g' := (mkF m 17 #[.val (.ref t), .val (.ref u), .val (.int (Int32.ofNat i))] [(.int (Int32.ofNat i)), (.ref t)])) (fun _ zk => XS.iloadN X0.here hx rfl (hb hby d12_16) rfl zk) ?_
        refine Go.st (T' := s₁) (g' := (mkF m 18 #[.val (.ref t), .val (.ref u), .val (.int (Int32.ofNat i))] [(.int (bs.getD i 0))])) (fun _ zk => ldBV X0 hx hZ e0 V1 (j := (Int32.ofNat i)) ⟨own_ofn0 (by omega), own_oflt (by omega) (by omega)⟩ (v := (.int (bs.getD i 0))) (by rw [own_clamp (by omega)]; exact own_getD bs i) (g := (mkF m 17 #[.val (.ref t), .val (.ref u), .val (.int (Int32.ofNat i))] [(.int (Int32.ofNat i)), (.ref t)])) rfl (rest := []) rfl (hb hby d12_17) zk) ?_
        refine Go.st (T' := s₁) (g' := (mkF m 19 #[.val (.ref t), .val (.ref u), .val (.int (Int32.ofNat i))] [(.ref u), (.int (bs.getD i 0))])) (fun _ zk => XS.aloadN X0.here hx rfl (hb hby d12_18) rfl rfl zk) ?_
        refine Go.st (T' := s₁) (g' := (mkF m 20 #[.val (.ref t), .val (.ref u), .val (.int (Int32.ofNat i))] [(.int (Int32.ofNat i)), (.ref u), (.int (bs.getD i 0))])) (fun _ zk => XS.iloadN X0.here hx rfl (hb hby d12_19) rfl zk) ?_
        refine Go.st (T' := s₁) (g' := (mkF m 21 #[.val (.ref t), .val (.ref u), .val (.int (Int32.ofNat i))] [(.int (ds.getD i 0)), (.int (bs.getD i 0))])) (fun _ zk => ldBV X0 hx hZ e0 V2 (j := (Int32.ofNat i)) ⟨own_ofn0 (by omega), own_oflt (by omega) (by omega)⟩ (v := (.int (ds.getD i 0))) (by rw [own_clamp (by omega)]; exact own_getD ds i) (g := (mkF m 20 #[.val (.ref t), .val (.ref u), .val (.int (Int32.ofNat i))] [(.int (Int32.ofNat i)), (.ref u), (.int (bs.getD i 0))])) rfl (rest := [(.int (bs.getD i 0))]) rfl (hb hby d12_20) zk) ?_
        by_cases hc21 : (bs.getD i 0) = (ds.getD i 0)
        · refine Go.st (T' := s₁) (g' := (mkF m 26 #[.val (.ref t), .val (.ref u), .val (.int (Int32.ofNat i))] [])) (fun _ zk => XS.icmpYes X0.here hx rfl (pc0 := 21) (pc' := 26) rfl (hb hby d12_21) rfl (teq hc21).1 (by decide) (by decide) zk) ?_
          refine Go.st (T' := s₁) (g' := (mkF m 29 #[.val (.ref t), .val (.ref u), .val (.int ((Int32.ofNat i) + (1 : Int32)))] [])) (fun _ zk => XS.iinc X0.here hx rfl (hb hby d12_26) rfl (l' := #[.val (.ref t), .val (.ref u), .val (.int ((Int32.ofNat i) + (1 : Int32)))]) rfl zk) ?_
          refine Go.st (T' := s₁) (g' := (mkF m 9 #[.val (.ref t), .val (.ref u), .val (.int ((Int32.ofNat i) + (1 : Int32)))] [])) (fun _ zk => XS.goto X0.here hx rfl (pc0 := 29) (pc' := 9) rfl (hb hby d12_29) (by decide) (by decide) zk) ?_
          rw [own_one]
          exact ih (i + 1) (by omega) (own_take (by omega) (by omega) ht hc21)
        · refine Go.st (T' := s₁) (g' := (mkF m 24 #[.val (.ref t), .val (.ref u), .val (.int (Int32.ofNat i))] [])) (fun _ zk => XS.icmpNo X0.here hx rfl (hb hby d12_21) rfl (feq hc21).1 zk) ?_
          refine Go.st (T' := s₁) (g' := (mkF m 25 #[.val (.ref t), .val (.ref u), .val (.int (Int32.ofNat i))] [(.int (0 : Int32))])) (fun _ zk => XS.iconst X0.here hx rfl (hb hby d12_24) zk) ?_
          refine Go.retN X0 hx hlk hret rfl (by simp) (hb hby d12_25) (by decide) (by decide) e0 ?_
          exact ⟨_, rfl, Or.inr ⟨rfl, fun q' => hc21 (by rw [q'])⟩, N0, rfl⟩
    exact loop bs.length 0 (by omega) rfl
  · refine Go.st (T' := s₁) (g' := (mkF m 34 #[.val (.ref t), .val (.ref u), .unset] [])) (fun _ zk => XS.icmpYes X0.here hx rfl (pc0 := 4) (pc' := 34) rfl (hb hby d12_4) rfl (feq hc4).2 (by decide) (by decide) zk) ?_
    refine Go.st (T' := s₁) (g' := (mkF m 35 #[.val (.ref t), .val (.ref u), .unset] [(.int (0 : Int32))])) (fun _ zk => XS.iconst X0.here hx rfl (hb hby d12_34) zk) ?_
    refine Go.retN X0 hx hlk hret rfl (by simp) (hb hby d12_35) (by decide) (by decide) e0 ?_
    exact ⟨_, rfl, Or.inr ⟨rfl, fun q' => hc4 (by rw [q'])⟩, N0, rfl⟩
theorem d8_0 : decode jdk_42_method_66_code 0 = .ok (.aload_n 0, 1) := by decide +kernel
theorem d8_1 : decode jdk_42_method_66_code 1 = .ok (.aload_n 1, 1) := by decide +kernel
theorem d8_2 : decode jdk_42_method_66_code 2 = .ok (.if_acmp .ne 5, 3) := by decide +kernel
theorem d8_5 : decode jdk_42_method_66_code 5 = .ok (.iconst 1, 1) := by decide +kernel
theorem d8_6 : decode jdk_42_method_66_code 6 = .ok (.ireturn, 1) := by decide +kernel
theorem d8_7 : decode jdk_42_method_66_code 7 = .ok (.aload_n 1, 1) := by decide +kernel
theorem d8_8 : decode jdk_42_method_66_code 8 = .ok (.instanceof 10, 3) := by decide +kernel
theorem w66 {a0 : Array Value} {Z : State} (hw : ∀ d ∈ tables_1, d.before a0 Z = true) : ((Jvm.Cond.classLink "java/lang/String" (10 : Nat) "java/lang/String")).before a0 Z = true := hw _ (List.mem_of_getElem? (i := 66) rfl)
theorem d8_11 : decode jdk_42_method_66_code 11 = .ok (.ifCond .eq 43, 3) := by decide +kernel
theorem d8_14 : decode jdk_42_method_66_code 14 = .ok (.aload_n 1, 1) := by decide +kernel
theorem d8_15 : decode jdk_42_method_66_code 15 = .ok (.checkcast 10, 3) := by decide +kernel
theorem d8_18 : decode jdk_42_method_66_code 18 = .ok (.astore_n 2, 1) := by decide +kernel
theorem d8_19 : decode jdk_42_method_66_code 19 = .ok (.getstatic 38, 3) := by decide +kernel
theorem w55 {a0 : Array Value} {Z : State} (hw : ∀ d ∈ tables_1, d.before a0 Z = true) : ((Jvm.Cond.fieldLink "java/lang/String" (38 : Nat) "java/lang/String" "COMPACT_STRINGS" "Z")).before a0 Z = true := hw _ (List.mem_of_getElem? (i := 55) rfl)
theorem d8_22 : decode jdk_42_method_66_code 22 = .ok (.ifCond .eq 14, 3) := by decide +kernel
theorem d8_25 : decode jdk_42_method_66_code 25 = .ok (.aload_n 0, 1) := by decide +kernel
theorem d8_26 : decode jdk_42_method_66_code 26 = .ok (.getfield 15, 3) := by decide +kernel
theorem w25 {a0 : Array Value} {Z : State} (hw : ∀ d ∈ tables_1, d.before a0 Z = true) : ((Jvm.Cond.fieldLink "java/lang/String" (15 : Nat) "java/lang/String" "coder" "B")).before a0 Z = true := hw _ (List.mem_of_getElem? (i := 25) rfl)
theorem d8_29 : decode jdk_42_method_66_code 29 = .ok (.aload_n 2, 1) := by decide +kernel
theorem d8_30 : decode jdk_42_method_66_code 30 = .ok (.getfield 15, 3) := by decide +kernel
theorem d8_33 : decode jdk_42_method_66_code 33 = .ok (.if_icmp .ne 21, 3) := by decide +kernel
theorem d8_36 : decode jdk_42_method_66_code 36 = .ok (.aload_n 0, 1) := by decide +kernel
theorem d8_37 : decode jdk_42_method_66_code 37 = .ok (.getfield 9, 3) := by decide +kernel
theorem w24 {a0 : Array Value} {Z : State} (hw : ∀ d ∈ tables_1, d.before a0 Z = true) : ((Jvm.Cond.fieldLink "java/lang/String" (9 : Nat) "java/lang/String" "value" "[B")).before a0 Z = true := hw _ (List.mem_of_getElem? (i := 24) rfl)
theorem d8_40 : decode jdk_42_method_66_code 40 = .ok (.aload_n 2, 1) := by decide +kernel
theorem d8_41 : decode jdk_42_method_66_code 41 = .ok (.getfield 9, 3) := by decide +kernel
theorem w70 {a0 : Array Value} {Z : State} (hw : ∀ d ∈ tables_1, d.before a0 Z = true) : ((Jvm.Cond.code ({ cls := "java/lang/StringLatin1", name := "equals", desc := "([B[B)Z" } : Jvm.MethodName) jdk_43_method_13_code (3 : Nat) (Option.some Jvm.ClassFile.FieldType.boolean))).before a0 Z = true := hw _ (List.mem_of_getElem? (i := 70) rfl)
theorem w69 {a0 : Array Value} {Z : State} (hw : ∀ d ∈ tables_1, d.before a0 Z = true) : ((Jvm.Cond.initialized "java/lang/StringLatin1")).before a0 Z = true := hw _ (List.mem_of_getElem? (i := 69) rfl)
theorem pd1 : parseMethodDescriptor "([B[B)Z" = some ⟨[(.array .byte), (.array .byte)], some .boolean⟩ := by decide +kernel
theorem d8_44 : decode jdk_42_method_66_code 44 = .ok (.invokestatic 541, 3) := by decide +kernel
theorem w67 {a0 : Array Value} {Z : State} (hw : ∀ d ∈ tables_1, d.before a0 Z = true) : ((Jvm.Cond.methodLink "java/lang/String" (541 : Nat) ({ cls := "java/lang/StringLatin1", name := "equals", desc := "([B[B)Z" } : Jvm.MethodName))).before a0 Z = true := hw _ (List.mem_of_getElem? (i := 67) rfl)
theorem w68 {a0 : Array Value} {Z : State} (hw : ∀ d ∈ tables_1, d.before a0 Z = true) : ((Jvm.Cond.static ({ cls := "java/lang/StringLatin1", name := "equals", desc := "([B[B)Z" } : Jvm.MethodName))).before a0 Z = true := hw _ (List.mem_of_getElem? (i := 68) rfl)
theorem d8_47 : decode jdk_42_method_66_code 47 = .ok (.ifCond .eq 7, 3) := by decide +kernel
theorem d8_54 : decode jdk_42_method_66_code 54 = .ok (.iconst 0, 1) := by decide +kernel
theorem d8_55 : decode jdk_42_method_66_code 55 = .ok (.ireturn, 1) := by decide +kernel
theorem d8_50 : decode jdk_42_method_66_code 50 = .ok (.iconst 1, 1) := by decide +kernel
theorem d8_51 : decode jdk_42_method_66_code 51 = .ok (.goto 4, 3) := by decide +kernel
def rr_eqStr : Room := { frames := 1, cells := 0, slots := 0, locals := 14 }
theorem pn2 : plainName "java/lang/String" = true := by first | (simp [plainName, overriddenIn]; done) | decide +kernel
set_option maxRecDepth 65536 in
set_option maxHeartbeats 40000000 in
theorem rm_eqStr (l : Launch) (Z : State) (a0 : Array Value) (hw : ∀ d ∈ tables_1, d.before a0 Z = true) (ws : List Jvm.Cond) (a b : Addr) (cd cd' zc : Int32) (bs ds : List Int32) (h0 : Heap) (n0 : Nat) (Z0 : n0 ≤ h0.size) (O0 : Old Z n0 h0) (S1 : StrB Z h0 a cd bs) (S2 : StrB Z h0 b cd' ds) (lb : bs.length < 2 ^ 31) (ld : ds.length < 2 ^ 31) (CS : Sta Z Z.heap "java/lang/String" "COMPACT_STRINGS" "Z" (.int zc)) (hz : ¬ zc = 0) :
    Con l Z (⟨"java/lang/String", "equals", "(Ljava/lang/Object;)Z"⟩ : MethodName) jdk_42_method_66_code 3 (some .boolean) ws rr_eqStr #[(.ref a), (.ref b)] h0 (fun v h L => ∃ r : Int32, v = some (.int r) ∧ ((r = 1 ∧ cd = cd' ∧ bs = ds) ∨ (r = 0 ∧ ¬ (cd = cd' ∧ bs = ds))) ∧ Fr n0 L ∧ h = h0) := by
  refine Con.enter (plainFor_of_name pn2) ?_
  intro p e s m below meth c s₁ X0 hx hZ hby hml hret hlk hown hnm e0
  have N0 := Fr.nil n0
  refine Go.cast (g' := (mkF m 0 #[.val (.ref a), .val (.ref b), .unset] [])) (by first | rfl | (simp [entryFrame, mkF, argsToLocals, Value.category]; done)) ?_
  have S1' := S1
  have S2' := S2
  obtain ⟨t1, k1, E_a, C_a, F_a, V_a⟩ := S1
  obtain ⟨t2, k2, E_b, C_b, F_b, V_b⟩ := S2
  refine Go.st (T' := s₁) (g' := (mkF m 1 #[.val (.ref a), .val (.ref b), .unset] [(.ref a)])) (fun _ zk => XS.aloadN X0.here hx rfl (hb hby d8_0) rfl rfl zk) ?_
  refine Go.st (T' := s₁) (g' := (mkF m 2 #[.val (.ref a), .val (.ref b), .unset] [(.ref b), (.ref a)])) (fun _ zk => XS.aloadN X0.here hx rfl (hb hby d8_1) rfl rfl zk) ?_
  by_cases hc2 : a = b
  · refine Go.st (T' := s₁) (g' := (mkF m 5 #[.val (.ref a), .val (.ref b), .unset] [])) (fun _ zk => Jvm.RoadKit.acmp (g := (mkF m 2 #[.val (.ref a), .val (.ref b), .unset] [(.ref b), (.ref a)])) X0 hx rfl rfl rfl (pc0 := 2) (pc' := 5) (same := true) rfl (hb hby d8_2) rfl (decide_eq_true (congrArg Value.ref hc2)) (by decide) (by decide) zk) ?_
    refine Go.st (T' := s₁) (g' := (mkF m 6 #[.val (.ref a), .val (.ref b), .unset] [(.int (1 : Int32))])) (fun _ zk => XS.iconst X0.here hx rfl (hb hby d8_5) zk) ?_
    refine Go.retN X0 hx hlk hret rfl (by simp) (hb hby d8_6) (by decide) (by decide) e0 ?_
    subst hc2
    exact ⟨_, rfl, Or.inl ⟨rfl, StrB.uniq lb ld S1' S2'⟩, N0, rfl⟩
  · refine Go.st (T' := s₁) (g' := (mkF m 7 #[.val (.ref a), .val (.ref b), .unset] [])) (fun _ zk => Jvm.RoadKit.acmp (g := (mkF m 2 #[.val (.ref a), .val (.ref b), .unset] [(.ref b), (.ref a)])) X0 hx rfl rfl rfl (pc0 := 2) (pc' := 7) (same := false) rfl (hb hby d8_2) rfl (decide_eq_false fun q => hc2 (Value.ref.inj q)) (by decide) (by decide) zk) ?_
    refine Go.st (T' := s₁) (g' := (mkF m 8 #[.val (.ref a), .val (.ref b), .unset] [(.ref b)])) (fun _ zk => XS.aloadN X0.here hx rfl (hb hby d8_7) rfl rfl zk) ?_
    obtain ⟨T1, X1, e1, st1⟩ := instY X0 hx hZ hown (w66 hw) e0 (Ins.self E_b) (g := (mkF m 8 #[.val (.ref a), .val (.ref b), .unset] [(.ref b)])) rfl rfl (hb hby d8_8)
    refine Go.st (T' := T1) (g' := (mkF m 11 #[.val (.ref a), .val (.ref b), .unset] [(.int (1 : Int32))])) (fun _ zk => st1 _ zk) ?_
    refine Go.st (T' := T1) (g' := (mkF m 14 #[.val (.ref a), .val (.ref b), .unset] [])) (fun _ zk => XS.ifNo X1.here hx rfl (hb hby d8_11) rfl ((if0 _ _).trans (feq ((by decide) : ¬ ((1 : Int32) = (0 : Int32)))).1) zk) ?_
    refine Go.st (T' := T1) (g' := (mkF m 15 #[.val (.ref a), .val (.ref b), .unset] [(.ref b)])) (fun _ zk => XS.aloadN X1.here hx rfl (hb hby d8_14) rfl rfl zk) ?_
    obtain ⟨T2, X2, e2, st2⟩ := castY X1 hx hZ hown (w66 hw) e1 (Ins.self E_b) (g := (mkF m 15 #[.val (.ref a), .val (.ref b), .unset] [(.ref b)])) rfl rfl (hb hby d8_15)
    refine Go.st (T' := T2) (g' := (mkF m 18 #[.val (.ref a), .val (.ref b), .unset] [(.ref b)])) (fun _ zk => st2 _ zk) ?_
    refine Go.st (T' := T2) (g' := (mkF m 19 #[.val (.ref a), .val (.ref b), .val (.ref b)] [])) (fun _ zk => XS.astoreN X2.here hx rfl (hb hby d8_18) rfl rfl (l' := #[.val (.ref a), .val (.ref b), .val (.ref b)]) rfl zk) ?_
    obtain ⟨T3, X3, e3, st3⟩ := getS2 X2 hx hZ hown (host := "") (Or.inl (w55 hw)) Via.refl e2 (CS.ext O0.2) (g := (mkF m 19 #[.val (.ref a), .val (.ref b), .val (.ref b)] [])) rfl (hb hby d8_19)
    refine Go.st (T' := T3) (g' := (mkF m 22 #[.val (.ref a), .val (.ref b), .val (.ref b)] [(.int zc)])) (fun _ zk => st3 _ zk) ?_
    refine Go.st (T' := T3) (g' := (mkF m 25 #[.val (.ref a), .val (.ref b), .val (.ref b)] [])) (fun _ zk => XS.ifNo X3.here hx rfl (hb hby d8_22) rfl ((if0 _ _).trans (feq (hz : ¬ (zc = (0 : Int32)))).1) zk) ?_
    refine Go.st (T' := T3) (g' := (mkF m 26 #[.val (.ref a), .val (.ref b), .val (.ref b)] [(.ref a)])) (fun _ zk => XS.aloadN X3.here hx rfl (hb hby d8_25) rfl rfl zk) ?_
    obtain ⟨T4, X4, e4, st4⟩ := getF X3 hx hZ hown (host := "") (Or.inl (w25 hw)) Via.refl e3 C_a (g := (mkF m 26 #[.val (.ref a), .val (.ref b), .val (.ref b)] [(.ref a)])) rfl rfl (hb hby d8_26)
    refine Go.st (T' := T4) (g' := (mkF m 29 #[.val (.ref a), .val (.ref b), .val (.ref b)] [(.int cd)])) (fun _ zk => st4 _ zk) ?_
    refine Go.st (T' := T4) (g' := (mkF m 30 #[.val (.ref a), .val (.ref b), .val (.ref b)] [(.ref b), (.int cd)])) (fun _ zk => XS.aloadN X4.here hx rfl (hb hby d8_29) rfl rfl zk) ?_
    obtain ⟨T5, X5, e5, st5⟩ := getF X4 hx hZ hown (host := "") (Or.inl (w25 hw)) Via.refl e4 C_b (g := (mkF m 30 #[.val (.ref a), .val (.ref b), .val (.ref b)] [(.ref b), (.int cd)])) rfl rfl (hb hby d8_30)
    refine Go.st (T' := T5) (g' := (mkF m 33 #[.val (.ref a), .val (.ref b), .val (.ref b)] [(.int cd'), (.int cd)])) (fun _ zk => st5 _ zk) ?_
    by_cases hc33 : cd = cd'
    · refine Go.st (T' := T5) (g' := (mkF m 36 #[.val (.ref a), .val (.ref b), .val (.ref b)] [])) (fun _ zk => XS.icmpNo X5.here hx rfl (hb hby d8_33) rfl (teq hc33).2 zk) ?_
      refine Go.st (T' := T5) (g' := (mkF m 37 #[.val (.ref a), .val (.ref b), .val (.ref b)] [(.ref a)])) (fun _ zk => XS.aloadN X5.here hx rfl (hb hby d8_36) rfl rfl zk) ?_
      obtain ⟨T6, X6, e6, st6⟩ := getF X5 hx hZ hown (host := "") (Or.inl (w24 hw)) Via.refl e5 F_a (g := (mkF m 37 #[.val (.ref a), .val (.ref b), .val (.ref b)] [(.ref a)])) rfl rfl (hb hby d8_37)
      refine Go.st (T' := T6) (g' := (mkF m 40 #[.val (.ref a), .val (.ref b), .val (.ref b)] [(.ref t1)])) (fun _ zk => st6 _ zk) ?_
      refine Go.st (T' := T6) (g' := (mkF m 41 #[.val (.ref a), .val (.ref b), .val (.ref b)] [(.ref b), (.ref t1)])) (fun _ zk => XS.aloadN X6.here hx rfl (hb hby d8_40) rfl rfl zk) ?_
      obtain ⟨T7, X7, e7, st7⟩ := getF X6 hx hZ hown (host := "") (Or.inl (w24 hw)) Via.refl e6 F_b (g := (mkF m 41 #[.val (.ref a), .val (.ref b), .val (.ref b)] [(.ref b), (.ref t1)])) rfl rfl (hb hby d8_41)
      refine Go.st (T' := T7) (g' := (mkF m 44 #[.val (.ref a), .val (.ref b), .val (.ref b)] [(.ref t2), (.ref t1)])) (fun _ zk => st7 _ zk) ?_
      refine Go.callSt (y := (⟨"java/lang/StringLatin1", "equals", "([B[B)Z"⟩ : MethodName)) X7 hx hZ hown e7 (w67 hw) (w68 hw) (w69 hw) (w70 hw) (by decide) (argsL := [(.ref t1), (.ref t2)]) (rest := []) (W := 0) (rm_eqLatin l Z a0 hw [] t1 t2 k1 k2 bs ds h0 n0 Z0 V_a V_b lb ld) rfl (lenOf pd1 rfl) rfl (by rw [hml]; rfl) rfl (by show 2 * 0 + _ ≤ _; exact Nat.le_of_eq rfl) (by decide) (by decide) (by decide) (by decide) (hb hby d8_44) ?_
      intro v8 T8 h8 L8 X8 e8 q8
      obtain ⟨r8, hv8, hr8, Nf8, hh8⟩ := q8
      subst hv8
      have E8 : T8.heap = h0 := e8.trans hh8
      have N8 := Fr.app N0 Nf8
      show Go p.tables e below _ T8 (mkF m 47 #[.val (.ref a), .val (.ref b), .val (.ref b)] [(.int r8)])
      by_cases hc47 : r8 = (0 : Int32)
      · refine Go.st (T' := T8) (g' := (mkF m 54 #[.val (.ref a), .val (.ref b), .val (.ref b)] [])) (fun _ zk => XS.ifYes X8.here hx rfl (pc0 := 47) (pc' := 54) rfl (hb hby d8_47) rfl ((if0 _ _).trans (teq hc47).1) (by decide) (by decide) zk) ?_
        refine Go.st (T' := T8) (g' := (mkF m 55 #[.val (.ref a), .val (.ref b), .val (.ref b)] [(.int (0 : Int32))])) (fun _ zk => XS.iconst X8.here hx rfl (hb hby d8_54) zk) ?_
        refine Go.retN X8 hx hlk hret rfl (by simp) (hb hby d8_55) (by decide) (by decide) E8 ?_
        rcases hr8 with ⟨hr1, hr2⟩ | ⟨hr1, hr2⟩
        · first | exact ⟨_, rfl, Or.inl ⟨rfl, hc33, hr2⟩, N8, rfl⟩ | exact absurd (hr1.symm.trans hc47) (by decide)
        · first | exact absurd hr1 hc47 | exact ⟨_, rfl, Or.inr ⟨rfl, fun q => hr2 q.2⟩, N8, rfl⟩
      · refine Go.st (T' := T8) (g' := (mkF m 50 #[.val (.ref a), .val (.ref b), .val (.ref b)] [])) (fun _ zk => XS.ifNo X8.here hx rfl (hb hby d8_47) rfl ((if0 _ _).trans (feq hc47).1) zk) ?_
        refine Go.st (T' := T8) (g' := (mkF m 51 #[.val (.ref a), .val (.ref b), .val (.ref b)] [(.int (1 : Int32))])) (fun _ zk => XS.iconst X8.here hx rfl (hb hby d8_50) zk) ?_
        refine Go.st (T' := T8) (g' := (mkF m 55 #[.val (.ref a), .val (.ref b), .val (.ref b)] [(.int (1 : Int32))])) (fun _ zk => XS.goto X8.here hx rfl (pc0 := 51) (pc' := 55) rfl (hb hby d8_51) (by decide) (by decide) zk) ?_
        refine Go.retN X8 hx hlk hret rfl (by simp) (hb hby d8_55) (by decide) (by decide) E8 ?_
        rcases hr8 with ⟨hr1, hr2⟩ | ⟨hr1, hr2⟩
        · first | exact ⟨_, rfl, Or.inl ⟨rfl, hc33, hr2⟩, N8, rfl⟩ | exact absurd (hr1.symm.trans hc47) (by decide)
        · first | exact absurd hr1 hc47 | exact ⟨_, rfl, Or.inr ⟨rfl, fun q => hr2 q.2⟩, N8, rfl⟩
    · refine Go.st (T' := T5) (g' := (mkF m 54 #[.val (.ref a), .val (.ref b), .val (.ref b)] [])) (fun _ zk => XS.icmpYes X5.here hx rfl (pc0 := 33) (pc' := 54) rfl (hb hby d8_33) rfl (feq hc33).2 (by decide) (by decide) zk) ?_
      refine Go.st (T' := T5) (g' := (mkF m 55 #[.val (.ref a), .val (.ref b), .val (.ref b)] [(.int (0 : Int32))])) (fun _ zk => XS.iconst X5.here hx rfl (hb hby d8_54) zk) ?_
      refine Go.retN X5 hx hlk hret rfl (by simp) (hb hby d8_55) (by decide) (by decide) e5 ?_
      exact ⟨_, rfl, Or.inr ⟨rfl, fun q => hc33 q.1⟩, N0, rfl⟩
theorem d6_0 : decode jdk_31_method_11_code 0 = .ok (.aload_n 0, 1) := by decide +kernel
theorem d6_1 : decode jdk_31_method_11_code 1 = .ok (.ifnonnull 12, 3) := by decide +kernel
theorem d6_13 : decode jdk_31_method_11_code 13 = .ok (.aload_n 0, 1) := by decide +kernel
theorem d6_14 : decode jdk_31_method_11_code 14 = .ok (.areturn, 1) := by decide +kernel
def rr_rnn : Room := { frames := 0, cells := 0, slots := 0, locals := 0 }
theorem pn3 : plainName "java/util/Objects" = true := by first | (simp [plainName, overriddenIn]; done) | decide +kernel
set_option maxRecDepth 65536 in
set_option maxHeartbeats 40000000 in
theorem rm_rnn (l : Launch) (Z : State) (a0 : Array Value) (hw : ∀ d ∈ tables_1, d.before a0 Z = true) (ws : List Jvm.Cond) (a b : Addr) (h0 : Heap) (n0 : Nat) (Z0 : n0 ≤ h0.size)  :
    Con l Z (⟨"java/util/Objects", "requireNonNull", "(Ljava/lang/Object;Ljava/lang/String;)Ljava/lang/Object;"⟩ : MethodName) jdk_31_method_11_code 2 (some (.object "java/lang/Object")) ws rr_rnn #[(.ref a), (.ref b)] h0 (fun v h L => v = some (.ref a) ∧ Fr n0 L ∧ h = h0) := by
  refine Con.enter (plainFor_of_name pn3) ?_
  intro p e s m below meth c s₁ X0 hx hZ hby hml hret hlk hown hnm e0
  have N0 := Fr.nil n0
  refine Go.cast (g' := (mkF m 0 #[.val (.ref a), .val (.ref b)] [])) (by first | rfl | (simp [entryFrame, mkF, argsToLocals, Value.category]; done)) ?_
  refine Go.st (T' := s₁) (g' := (mkF m 1 #[.val (.ref a), .val (.ref b)] [(.ref a)])) (fun _ zk => XS.aloadN X0.here hx rfl (hb hby d6_0) rfl rfl zk) ?_
  refine Go.st (T' := s₁) (g' := (mkF m 13 #[.val (.ref a), .val (.ref b)] [])) (fun _ zk => XS.ifnonnullYes X0.here hx rfl (pc0 := 1) (pc' := 13) rfl (hb hby d6_1) rfl (by decide) (by decide) zk) ?_
  refine Go.st (T' := s₁) (g' := (mkF m 14 #[.val (.ref a), .val (.ref b)] [(.ref a)])) (fun _ zk => XS.aloadN X0.here hx rfl (hb hby d6_13) rfl rfl zk) ?_
  refine Go.retA X0 hx hlk hret rfl rfl (hb hby d6_14) (by decide) (by decide) e0 ?_
  exact ⟨rfl, N0, rfl⟩
theorem d14_0 : decode jdk_30_method_1_code 0 = .ok (.aload_n 0, 1) := by decide +kernel
theorem d14_1 : decode jdk_30_method_1_code 1 = .ok (.invokespecial 1, 3) := by decide +kernel
theorem w82 {a0 : Array Value} {Z : State} (hw : ∀ d ∈ tables_1, d.before a0 Z = true) : ((Jvm.Cond.methodLink "java/lang/Record" (1 : Nat) ({ cls := "java/lang/Object", name := "<init>", desc := "()V" } : Jvm.MethodName))).before a0 Z = true := hw _ (List.mem_of_getElem? (i := 82) rfl)
theorem w16 {a0 : Array Value} {Z : State} (hw : ∀ d ∈ tables_1, d.before a0 Z = true) : ((Jvm.Cond.instanceMethod ({ cls := "java/lang/Object", name := "<init>", desc := "()V" } : Jvm.MethodName))).before a0 Z = true := hw _ (List.mem_of_getElem? (i := 16) rfl)
theorem w17 {a0 : Array Value} {Z : State} (hw : ∀ d ∈ tables_1, d.before a0 Z = true) : ((Jvm.Cond.code ({ cls := "java/lang/Object", name := "<init>", desc := "()V" } : Jvm.MethodName) object_method_1_code (1 : Nat) (Option.none : Option Jvm.ClassFile.FieldType))).before a0 Z = true := hw _ (List.mem_of_getElem? (i := 17) rfl)
theorem d14_4 : decode jdk_30_method_1_code 4 = .ok (.return_, 1) := by decide +kernel
def rr_recInit : Room := { frames := 1, cells := 0, slots := 0, locals := 12 }
theorem pn4 : plainName "java/lang/Record" = true := by first | (simp [plainName, overriddenIn]; done) | decide +kernel
set_option maxRecDepth 65536 in
set_option maxHeartbeats 40000000 in
theorem rm_recInit (l : Launch) (Z : State) (a0 : Array Value) (hw : ∀ d ∈ tables_1, d.before a0 Z = true) (ws : List Jvm.Cond) (a1 : Addr) (h0 : Heap) (n0 : Nat) (Z0 : n0 ≤ h0.size)  :
    Con l Z (⟨"java/lang/Record", "<init>", "()V"⟩ : MethodName) jdk_30_method_1_code 1 none ws rr_recInit #[(.ref a1)] h0 (fun v h L => v = none ∧ Fr n0 L ∧ h = h0) := by
  refine Con.enter (plainFor_of_name pn4) ?_
  intro p e s m below meth c s₁ X0 hx hZ hby hml hret hlk hown hnm e0
  have N0 := Fr.nil n0
  refine Go.cast (g' := (mkF m 0 #[.val (.ref a1)] [])) (by first | rfl | (simp [entryFrame, mkF, argsToLocals, Value.category]; done)) ?_
  refine Go.st (T' := s₁) (g' := (mkF m 1 #[.val (.ref a1)] [(.ref a1)])) (fun _ zk => XS.aloadN X0.here hx rfl (hb hby d14_0) rfl rfl zk) ?_
  obtain ⟨T1, X1, e1, st1⟩ := initO X0 hx hZ hown (w82 hw) (w16 hw) (w17 hw) e0 (g := (mkF m 1 #[.val (.ref a1)] [(.ref a1)])) rfl (by rw [hml]; rfl) rfl (hb hby d14_1) (by decide) (W := 0) (by show 2 * 0 + _ ≤ _; exact Nat.le_of_eq rfl) (by decide)
  refine Go.st (T' := T1) (g' := (mkF m 4 #[.val (.ref a1)] [])) (fun _ zk => st1 _ zk) ?_
  refine Go.retV X1 hx hlk hret (hb hby d14_4) (by decide) (by decide) e1 ?_
  exact ⟨rfl, N0, rfl⟩
theorem d5_0 : decode prog_67_method_1_code 0 = .ok (.aload_n 0, 1) := by decide +kernel
theorem d5_1 : decode prog_67_method_1_code 1 = .ok (.invokespecial 1, 3) := by decide +kernel
theorem w32 {a0 : Array Value} {Z : State} (hw : ∀ d ∈ tables_1, d.before a0 Z = true) : ((Jvm.Cond.methodLink "com/example/patience/patience/language/Variable" (1 : Nat) ({ cls := "java/lang/Object", name := "<init>", desc := "()V" } : Jvm.MethodName))).before a0 Z = true := hw _ (List.mem_of_getElem? (i := 32) rfl)
theorem d5_4 : decode prog_67_method_1_code 4 = .ok (.aload_n 0, 1) := by decide +kernel
theorem d5_5 : decode prog_67_method_1_code 5 = .ok (.aload_n 1, 1) := by decide +kernel
theorem d5_6 : decode prog_67_method_1_code 6 = .ok (.ldc 7, 2) := by decide +kernel
theorem w37 {a0 : Array Value} {Z : State} (hw : ∀ d ∈ tables_1, d.before a0 Z = true) : ((Jvm.Cond.code ({ cls := "java/util/Objects", name := "requireNonNull", desc := "(Ljava/lang/Object;Ljava/lang/String;)Ljava/lang/Object;" } : Jvm.MethodName) jdk_31_method_11_code (2 : Nat) (Option.some (Jvm.ClassFile.FieldType.object "java/lang/Object")))).before a0 Z = true := hw _ (List.mem_of_getElem? (i := 37) rfl)
theorem w36 {a0 : Array Value} {Z : State} (hw : ∀ d ∈ tables_1, d.before a0 Z = true) : ((Jvm.Cond.initialized "java/util/Objects")).before a0 Z = true := hw _ (List.mem_of_getElem? (i := 36) rfl)
theorem pd5 : parseMethodDescriptor "(Ljava/lang/Object;Ljava/lang/String;)Ljava/lang/Object;" = some ⟨[(.object "java/lang/Object"), (.object "java/lang/String")], some (.object "java/lang/Object")⟩ := by decide +kernel
theorem d5_8 : decode prog_67_method_1_code 8 = .ok (.invokestatic 9, 3) := by decide +kernel
theorem w34 {a0 : Array Value} {Z : State} (hw : ∀ d ∈ tables_1, d.before a0 Z = true) : ((Jvm.Cond.methodLink "com/example/patience/patience/language/Variable" (9 : Nat) ({ cls := "java/util/Objects", name := "requireNonNull", desc := "(Ljava/lang/Object;Ljava/lang/String;)Ljava/lang/Object;" } : Jvm.MethodName))).before a0 Z = true := hw _ (List.mem_of_getElem? (i := 34) rfl)
theorem w35 {a0 : Array Value} {Z : State} (hw : ∀ d ∈ tables_1, d.before a0 Z = true) : ((Jvm.Cond.static ({ cls := "java/util/Objects", name := "requireNonNull", desc := "(Ljava/lang/Object;Ljava/lang/String;)Ljava/lang/Object;" } : Jvm.MethodName))).before a0 Z = true := hw _ (List.mem_of_getElem? (i := 35) rfl)
theorem d5_11 : decode prog_67_method_1_code 11 = .ok (.checkcast 15, 3) := by decide +kernel
theorem w38 {a0 : Array Value} {Z : State} (hw : ∀ d ∈ tables_1, d.before a0 Z = true) : ((Jvm.Cond.classLink "com/example/patience/patience/language/Variable" (15 : Nat) "java/lang/String")).before a0 Z = true := hw _ (List.mem_of_getElem? (i := 38) rfl)
theorem d5_14 : decode prog_67_method_1_code 14 = .ok (.putfield 17, 3) := by decide +kernel
theorem w39 {a0 : Array Value} {Z : State} (hw : ∀ d ∈ tables_1, d.before a0 Z = true) : ((Jvm.Cond.fieldLink "com/example/patience/patience/language/Variable" (17 : Nat) "com/example/patience/patience/language/Variable" "name" "Ljava/lang/String;")).before a0 Z = true := hw _ (List.mem_of_getElem? (i := 39) rfl)
theorem w27 {a0 : Array Value} {Z : State} (hw : ∀ d ∈ tables_1, d.before a0 Z = true) : ((Jvm.Cond.instantiable "com/example/patience/patience/language/Variable" (1 : Nat))).before a0 Z = true := hw _ (List.mem_of_getElem? (i := 27) rfl)
theorem w40 {a0 : Array Value} {Z : State} (hw : ∀ d ∈ tables_1, d.before a0 Z = true) : ((Jvm.Cond.laysFinal "com/example/patience/patience/language/Variable" "com/example/patience/patience/language/Variable" "name" "Ljava/lang/String;")).before a0 Z = true := hw _ (List.mem_of_getElem? (i := 40) rfl)
theorem d5_17 : decode prog_67_method_1_code 17 = .ok (.return_, 1) := by decide +kernel
def rr_vrInit : Room := { frames := 1, cells := 2, slots := 20, locals := 14 }
theorem pn6 : plainName "com/example/patience/patience/language/Variable" = true := by first | (simp [plainName, overriddenIn]; done) | decide +kernel
set_option maxRecDepth 65536 in
set_option maxHeartbeats 40000000 in
theorem rm_vrInit (l : Launch) (Z : State) (a0 : Array Value) (hw : ∀ d ∈ tables_1, d.before a0 Z = true) (ws : List Jvm.Cond) (a1 : Addr) (u : Addr) (h0 : Heap) (n0 : Nat) (Z0 : n0 ≤ h0.size) (E0 : Exa Z h0 a1 "com/example/patience/patience/language/Variable") (g0 : n0 ≤ a1) (F0_0 : Fld Z h0 a1 "com/example/patience/patience/language/Variable" "name" "Ljava/lang/String;" .null) (Eu : Exa Z h0 u "java/lang/String") :
    ConS l Z EL0 (⟨"com/example/patience/patience/language/Variable", "<init>", "(Ljava/lang/String;)V"⟩ : MethodName) prog_67_method_1_code 2 none ws rr_vrInit #[(.ref a1), (.ref u)] h0 [] (fun v h L => v = none ∧ Fr n0 L ∧ Keep h0 h [a1] ∧ Fld Z h a1 "com/example/patience/patience/language/Variable" "name" "Ljava/lang/String;" (.ref u)) := by
  refine ConS.enter (plainFor_of_name pn6) ?_
  intro p e s m below meth c s₁ X0 hx hZ hby hml hret hlk hown hnm e0 hS hA hsf
  have N0 := Fr.nil n0
  have hEL := hEL0 hw
  have hSt := hSt0 hw
  refine Go.cast (g' := (mkF m 0 #[.val (.ref a1), .val (.ref u)] [])) (by first | rfl | (simp [entryFrame, mkF, argsToLocals, Value.category]; done)) ?_
  refine Go.st (T' := s₁) (g' := (mkF m 1 #[.val (.ref a1), .val (.ref u)] [(.ref a1)])) (fun _ zk => XS.aloadN X0.here hx rfl (hb hby d5_0) rfl rfl zk) ?_
  obtain ⟨T1, X1, e1, st1⟩ := initO X0 hx hZ hown (w32 hw) (w16 hw) (w17 hw) e0 (g := (mkF m 1 #[.val (.ref a1), .val (.ref u)] [(.ref a1)])) rfl (by rw [hml]; rfl) rfl (hb hby d5_1) (by decide) (W := 0) (by show 2 * 0 + _ ≤ _; exact Nat.le_of_eq rfl) (by decide)
  refine Go.st (T' := T1) (g' := (mkF m 4 #[.val (.ref a1), .val (.ref u)] [])) (fun _ zk => st1 _ zk) ?_
  refine Go.st (T' := T1) (g' := (mkF m 5 #[.val (.ref a1), .val (.ref u)] [(.ref a1)])) (fun _ zk => XS.aloadN X1.here hx rfl (hb hby d5_4) rfl rfl zk) ?_
  refine Go.st (T' := T1) (g' := (mkF m 6 #[.val (.ref a1), .val (.ref u)] [(.ref u), (.ref a1)])) (fun _ zk => XS.aloadN X1.here hx rfl (hb hby d5_5) rfl rfl zk) ?_
  obtain ⟨l2, T2, h2, kk2, lt2, kl2, X2, e2, E2, hS, hk2, hZ', hown, A2, C2, F2, V2, la2, lb2, cr2, -, sf2, st2⟩ := ldcCH X1 hx hZ hown (w33 hw) hSt e1 hS (Nat.zero_le _) hEL (by decide) hA.1 (vs := [(.int (110 : Int32)), (.int (97 : Int32)), (.int (109 : Int32)), (.int (101 : Int32))]) (z := (4 : Int32)) ⟨by decide, by decide⟩ (by decide) (by decide) (g := (mkF m 6 #[.val (.ref a1), .val (.ref u)] [(.ref u), (.ref a1)])) rfl (hb hby d5_6) (n := 16) (by decide) (by decide) (by decide) (by decide)
  have hZ : Z.Warmed39 T2.vm := hZ'
  have ca3 := hA.trans cr2
  refine Go.st (T' := T2) (g' := (mkF m 8 #[.val (.ref a1), .val (.ref u)] [(.ref l2), (.ref u), (.ref a1)])) (fun _ zk => st2 _ zk) ?_
  refine Go.callSt (y := (⟨"java/util/Objects", "requireNonNull", "(Ljava/lang/Object;Ljava/lang/String;)Ljava/lang/Object;"⟩ : MethodName)) X2 hx hZ hown e2 (w34 hw) (w35 hw) (w36 hw) (w37 hw) (by decide) (argsL := [(.ref u), (.ref l2)]) (rest := [(.ref a1)]) (W := 1) (rm_rnn l Z a0 hw [] u l2 h2 n0 (Nat.le_trans Z0 E2.1) ) rfl (lenOf pd5 rfl) rfl (by rw [hml]; rfl) rfl (by show 2 * 0 + _ ≤ _; exact Nat.le_of_eq rfl) (by decide) (by decide) (by decide) (by decide) (hb hby d5_8) ?_
  intro v4 T4 h4 L4 X4 e4 q4
  obtain ⟨hv4, Nf4, hh4⟩ := q4
  subst hv4
  have E4 : T4.heap = h2 := e4.trans hh4
  have N4 := Fr.app N0 Nf4
  show Go p.tables e below _ T4 (mkF m 11 #[.val (.ref a1), .val (.ref u)] [(.ref u), (.ref a1)])
  have x5 : Ext h0 h2 := E2
  have f6 := Eu.ext x5
  obtain ⟨T7, X7, e7, st7⟩ := castY X4 hx hZ hown (w38 hw) E4 (Ins.self f6) (g := (mkF m 11 #[.val (.ref a1), .val (.ref u)] [(.ref u), (.ref a1)])) rfl rfl (hb hby d5_11)
  refine Go.st (T' := T7) (g' := (mkF m 14 #[.val (.ref a1), .val (.ref u)] [(.ref u), (.ref a1)])) (fun _ zk => st7 _ zk) ?_
  have f9 := F0_0.ext x5
  have f10 := E0.ext x5
  obtain ⟨T8, h8, X8, e8, W8, st8⟩ := putF X7 hx hZ hown (host := "") (Or.inl (w39 hw)) Via.refl e7 f9 f10 (Or.inr ⟨(w40 hw), rfl, hnm⟩) (w27 hw) (ty := (.object "java/lang/String")) (by decide) rfl rfl (g := (mkF m 14 #[.val (.ref a1), .val (.ref u)] [(.ref u), (.ref a1)])) rfl rfl (hb hby d5_14)
  have F8 := f9.same W8
  have N8 := Fr.snoc X8 N4 g0
  refine Go.st (T' := T8) (g' := (mkF m 17 #[.val (.ref a1), .val (.ref u)] [])) (fun _ zk => st8 _ zk) ?_
  have cr11 := (chrW ca3 W8 (Safe.exa hZ.alike f10 (by decide) (by decide)))
  refine Go.retVS X8 hx hlk hS (Nat.le_trans hk2 (Keep.of_wr W8).1) cr11 hZ hEL hret (hb hby d5_17) (by decide) (by decide) e8 ?_
  exact ⟨rfl, N8, (((Keep.refl h0 [a1]).ext E2).wr W8 (Or.inl (List.mem_of_getElem? (i := 0) rfl))), F8⟩
theorem d13_0 : decode prog_47_method_1_code 0 = .ok (.aload_n 0, 1) := by decide +kernel
theorem w81 {a0 : Array Value} {Z : State} (hw : ∀ d ∈ tables_1, d.before a0 Z = true) : ((Jvm.Cond.code ({ cls := "java/lang/Record", name := "<init>", desc := "()V" } : Jvm.MethodName) jdk_30_method_1_code (1 : Nat) (Option.none : Option Jvm.ClassFile.FieldType))).before a0 Z = true := hw _ (List.mem_of_getElem? (i := 81) rfl)
theorem w80 {a0 : Array Value} {Z : State} (hw : ∀ d ∈ tables_1, d.before a0 Z = true) : ((Jvm.Cond.initialized "java/lang/Record")).before a0 Z = true := hw _ (List.mem_of_getElem? (i := 80) rfl)
theorem pd7 : parseMethodDescriptor "()V" = some ⟨[], none⟩ := by decide +kernel
theorem d13_1 : decode prog_47_method_1_code 1 = .ok (.invokespecial 1, 3) := by decide +kernel
theorem w77 {a0 : Array Value} {Z : State} (hw : ∀ d ∈ tables_1, d.before a0 Z = true) : ((Jvm.Cond.methodLink "com/example/patience/patience/language/Action" (1 : Nat) ({ cls := "java/lang/Record", name := "<init>", desc := "()V" } : Jvm.MethodName))).before a0 Z = true := hw _ (List.mem_of_getElem? (i := 77) rfl)
theorem w78 {a0 : Array Value} {Z : State} (hw : ∀ d ∈ tables_1, d.before a0 Z = true) : ((Jvm.Cond.instanceMethod ({ cls := "java/lang/Record", name := "<init>", desc := "()V" } : Jvm.MethodName))).before a0 Z = true := hw _ (List.mem_of_getElem? (i := 78) rfl)
theorem d13_4 : decode prog_47_method_1_code 4 = .ok (.aload_n 1, 1) := by decide +kernel
theorem d13_5 : decode prog_47_method_1_code 5 = .ok (.ldc 7, 2) := by decide +kernel
theorem d13_7 : decode prog_47_method_1_code 7 = .ok (.invokestatic 9, 3) := by decide +kernel
theorem w84 {a0 : Array Value} {Z : State} (hw : ∀ d ∈ tables_1, d.before a0 Z = true) : ((Jvm.Cond.methodLink "com/example/patience/patience/language/Action" (9 : Nat) ({ cls := "java/util/Objects", name := "requireNonNull", desc := "(Ljava/lang/Object;Ljava/lang/String;)Ljava/lang/Object;" } : Jvm.MethodName))).before a0 Z = true := hw _ (List.mem_of_getElem? (i := 84) rfl)
theorem d13_10 : decode prog_47_method_1_code 10 = .ok (.pop, 1) := by decide +kernel
theorem d13_11 : decode prog_47_method_1_code 11 = .ok (.aload_n 0, 1) := by decide +kernel
theorem d13_12 : decode prog_47_method_1_code 12 = .ok (.aload_n 1, 1) := by decide +kernel
theorem d13_13 : decode prog_47_method_1_code 13 = .ok (.putfield 15, 3) := by decide +kernel
theorem w85 {a0 : Array Value} {Z : State} (hw : ∀ d ∈ tables_1, d.before a0 Z = true) : ((Jvm.Cond.fieldLink "com/example/patience/patience/language/Action" (15 : Nat) "com/example/patience/patience/language/Action" "name" "Ljava/lang/String;")).before a0 Z = true := hw _ (List.mem_of_getElem? (i := 85) rfl)
theorem w72 {a0 : Array Value} {Z : State} (hw : ∀ d ∈ tables_1, d.before a0 Z = true) : ((Jvm.Cond.instantiable "com/example/patience/patience/language/Action" (1 : Nat))).before a0 Z = true := hw _ (List.mem_of_getElem? (i := 72) rfl)
theorem w86 {a0 : Array Value} {Z : State} (hw : ∀ d ∈ tables_1, d.before a0 Z = true) : ((Jvm.Cond.laysFinal "com/example/patience/patience/language/Action" "com/example/patience/patience/language/Action" "name" "Ljava/lang/String;")).before a0 Z = true := hw _ (List.mem_of_getElem? (i := 86) rfl)
theorem d13_16 : decode prog_47_method_1_code 16 = .ok (.return_, 1) := by decide +kernel
def rr_acInit : Room := { frames := 2, cells := 2, slots := 20, locals := 24 }
theorem pn8 : plainName "com/example/patience/patience/language/Action" = true := by first | (simp [plainName, overriddenIn]; done) | decide +kernel
set_option maxRecDepth 65536 in
set_option maxHeartbeats 40000000 in
theorem rm_acInit (l : Launch) (Z : State) (a0 : Array Value) (hw : ∀ d ∈ tables_1, d.before a0 Z = true) (ws : List Jvm.Cond) (a1 : Addr) (u : Addr) (h0 : Heap) (n0 : Nat) (Z0 : n0 ≤ h0.size) (E0 : Exa Z h0 a1 "com/example/patience/patience/language/Action") (g0 : n0 ≤ a1) (F0_0 : Fld Z h0 a1 "com/example/patience/patience/language/Action" "name" "Ljava/lang/String;" .null) (Eu : Exa Z h0 u "java/lang/String") :
    ConS l Z EL0 (⟨"com/example/patience/patience/language/Action", "<init>", "(Ljava/lang/String;)V"⟩ : MethodName) prog_47_method_1_code 2 none ws rr_acInit #[(.ref a1), (.ref u)] h0 [] (fun v h L => v = none ∧ Fr n0 L ∧ Keep h0 h [a1] ∧ Fld Z h a1 "com/example/patience/patience/language/Action" "name" "Ljava/lang/String;" (.ref u)) := by
  refine ConS.enter (plainFor_of_name pn8) ?_
  intro p e s m below meth c s₁ X0 hx hZ hby hml hret hlk hown hnm e0 hS hA hsf
  have N0 := Fr.nil n0
  have hEL := hEL0 hw
  have hSt := hSt0 hw
  refine Go.cast (g' := (mkF m 0 #[.val (.ref a1), .val (.ref u)] [])) (by first | rfl | (simp [entryFrame, mkF, argsToLocals, Value.category]; done)) ?_
  refine Go.st (T' := s₁) (g' := (mkF m 1 #[.val (.ref a1), .val (.ref u)] [(.ref a1)])) (fun _ zk => XS.aloadN X0.here hx rfl (hb hby d13_0) rfl rfl zk) ?_
  refine Go.callSp (y := (⟨"java/lang/Record", "<init>", "()V"⟩ : MethodName)) (a := a1) X0 hx hZ hown e0 rfl (w77 hw) (w78 hw) (w80 hw) (w81 hw) (by decide) (argsL := []) (rest := []) (W := 0) (rm_recInit l Z a0 hw [] a1 h0 n0 Z0 ) rfl (lenOf pd7 rfl) rfl (by rw [hml]; rfl) rfl (by show 2 * 0 + _ ≤ _; exact Nat.le_of_eq rfl) (by decide) (by decide) (by decide) (by decide) (hb hby d13_1) ?_
  intro v1 T1 h1 L1 X1 e1 q1
  obtain ⟨hv1, Nf1, hh1⟩ := q1
  subst hv1
  have E1 : T1.heap = h0 := e1.trans hh1
  have N1 := Fr.app N0 Nf1
  show Go p.tables e below _ T1 (mkF m 4 #[.val (.ref a1), .val (.ref u)] [])
  refine Go.st (T' := T1) (g' := (mkF m 5 #[.val (.ref a1), .val (.ref u)] [(.ref u)])) (fun _ zk => XS.aloadN X1.here hx rfl (hb hby d13_4) rfl rfl zk) ?_
  obtain ⟨l2, T2, h2, kk2, lt2, kl2, X2, e2, E2, hS, hk2, hZ', hown, A2, C2, F2, V2, la2, lb2, cr2, -, sf2, st2⟩ := ldcCH X1 hx hZ hown (w83 hw) hSt E1 hS (Nat.zero_le _) hEL (by decide) hA.1 (vs := [(.int (110 : Int32)), (.int (97 : Int32)), (.int (109 : Int32)), (.int (101 : Int32))]) (z := (4 : Int32)) ⟨by decide, by decide⟩ (by decide) (by decide) (g := (mkF m 5 #[.val (.ref a1), .val (.ref u)] [(.ref u)])) rfl (hb hby d13_5) (n := 16) (by decide) (by decide) (by decide) (by decide)
  have hZ : Z.Warmed39 T2.vm := hZ'
  have ca3 := hA.trans cr2
  refine Go.st (T' := T2) (g' := (mkF m 7 #[.val (.ref a1), .val (.ref u)] [(.ref l2), (.ref u)])) (fun _ zk => st2 _ zk) ?_
  refine Go.callSt (y := (⟨"java/util/Objects", "requireNonNull", "(Ljava/lang/Object;Ljava/lang/String;)Ljava/lang/Object;"⟩ : MethodName)) X2 hx hZ hown e2 (w84 hw) (w35 hw) (w36 hw) (w37 hw) (by decide) (argsL := [(.ref u), (.ref l2)]) (rest := []) (W := 0) (rm_rnn l Z a0 hw [] u l2 h2 n0 (Nat.le_trans Z0 E2.1) ) rfl (lenOf pd5 rfl) rfl (by rw [hml]; rfl) rfl (by show 2 * 0 + _ ≤ _; exact Nat.le_of_eq rfl) (by decide) (by decide) (by decide) (by decide) (hb hby d13_7) ?_
  intro v4 T4 h4 L4 X4 e4 q4
  obtain ⟨hv4, Nf4, hh4⟩ := q4
  subst hv4
  have E4 : T4.heap = h2 := e4.trans hh4
  have N4 := Fr.app N1 Nf4
  show Go p.tables e below _ T4 (mkF m 10 #[.val (.ref a1), .val (.ref u)] [(.ref u)])
  refine Go.st (T' := T4) (g' := (mkF m 11 #[.val (.ref a1), .val (.ref u)] [])) (fun _ zk => XS.pop X4.here hx rfl (hb hby d13_10) rfl rfl zk) ?_
  refine Go.st (T' := T4) (g' := (mkF m 12 #[.val (.ref a1), .val (.ref u)] [(.ref a1)])) (fun _ zk => XS.aloadN X4.here hx rfl (hb hby d13_11) rfl rfl zk) ?_
  refine Go.st (T' := T4) (g' := (mkF m 13 #[.val (.ref a1), .val (.ref u)] [(.ref u), (.ref a1)])) (fun _ zk => XS.aloadN X4.here hx rfl (hb hby d13_12) rfl rfl zk) ?_
  have x6 : Ext h0 h2 := E2
  have f7 := F0_0.ext x6
  have f8 := E0.ext x6
  obtain ⟨T5, h5, X5, e5, W5, st5⟩ := putF X4 hx hZ hown (host := "") (Or.inl (w85 hw)) Via.refl E4 f7 f8 (Or.inr ⟨(w86 hw), rfl, hnm⟩) (w72 hw) (ty := (.object "java/lang/String")) (by decide) rfl rfl (g := (mkF m 13 #[.val (.ref a1), .val (.ref u)] [(.ref u), (.ref a1)])) rfl rfl (hb hby d13_13)
  have F5 := f7.same W5
  have N5 := Fr.snoc X5 N4 g0
  refine Go.st (T' := T5) (g' := (mkF m 16 #[.val (.ref a1), .val (.ref u)] [])) (fun _ zk => st5 _ zk) ?_
  have cr9 := (chrW ca3 W5 (Safe.exa hZ.alike f8 (by decide) (by decide)))
  refine Go.retVS X5 hx hlk hS (Nat.le_trans hk2 (Keep.of_wr W5).1) cr9 hZ hEL hret (hb hby d13_16) (by decide) (by decide) e5 ?_
  exact ⟨rfl, N5, (((Keep.refl h0 [a1]).ext E2).wr W5 (Or.inl (List.mem_of_getElem? (i := 0) rfl))), F5⟩
def strb (n c0 c1 c2 : Int32) : List Int32 := if n = 0 then [] else if n = 1 then [c0.toInt8.toInt32] else if n = 2 then [c0.toInt8.toInt32, c1.toInt8.toInt32] else [c0.toInt8.toInt32, c1.toInt8.toInt32, c2.toInt8.toInt32]
theorem strb_len (n c0 c1 c2 : Int32) : (strb n c0 c1 c2).length < 2 ^ 31 := by unfold strb; split <;> (try split) <;> (try split) <;> simp
theorem lo_inj {x y : Int32} (hx : 0 ≤ x.toInt ∧ x.toInt ≤ 255) (hy : 0 ≤ y.toInt ∧ y.toInt ≤ 255) (h : x.toInt8.toInt32 = y.toInt8.toInt32) : x = y := by
  have a := c_i2b x
  have b := c_i2b y
  have q := congrArg Int32.toInt h
  exact Int32.toInt_inj.mp (by omega)
theorem d10_0 : decode jdk_52_method_21_code 0 = .ok (.iconst 0, 1) := by decide +kernel
theorem d10_1 : decode jdk_52_method_21_code 1 = .ok (.istore 5, 2) := by decide +kernel
theorem d10_3 : decode jdk_52_method_21_code 3 = .ok (.iload 5, 2) := by decide +kernel
theorem d10_5 : decode jdk_52_method_21_code 5 = .ok (.iload 4, 2) := by decide +kernel
theorem d10_7 : decode jdk_52_method_21_code 7 = .ok (.if_icmp .ge 37, 3) := by decide +kernel
theorem d10_10 : decode jdk_52_method_21_code 10 = .ok (.aload_n 0, 1) := by decide +kernel
theorem d10_11 : decode jdk_52_method_21_code 11 = .ok (.iload_n 1, 1) := by decide +kernel
theorem d10_12 : decode jdk_52_method_21_code 12 = .ok (.caload, 1) := by decide +kernel
theorem d10_13 : decode jdk_52_method_21_code 13 = .ok (.istore 6, 2) := by decide +kernel
theorem d10_15 : decode jdk_52_method_21_code 15 = .ok (.iload 6, 2) := by decide +kernel
theorem d10_17 : decode jdk_52_method_21_code 17 = .ok (.sipush 255, 3) := by decide +kernel
theorem d10_20 : decode jdk_52_method_21_code 20 = .ok (.if_icmp .le 6, 3) := by decide +kernel
theorem d10_26 : decode jdk_52_method_21_code 26 = .ok (.aload_n 2, 1) := by decide +kernel
theorem d10_27 : decode jdk_52_method_21_code 27 = .ok (.iload_n 3, 1) := by decide +kernel
theorem d10_28 : decode jdk_52_method_21_code 28 = .ok (.iload 6, 2) := by decide +kernel
theorem d10_30 : decode jdk_52_method_21_code 30 = .ok (.i2b, 1) := by decide +kernel
theorem d10_31 : decode jdk_52_method_21_code 31 = .ok (.bastore, 1) := by decide +kernel
theorem d10_32 : decode jdk_52_method_21_code 32 = .ok (.iinc 1 1, 3) := by decide +kernel
theorem d10_35 : decode jdk_52_method_21_code 35 = .ok (.iinc 3 1, 3) := by decide +kernel
theorem d10_38 : decode jdk_52_method_21_code 38 = .ok (.iinc 5 1, 3) := by decide +kernel
theorem d10_41 : decode jdk_52_method_21_code 41 = .ok (.goto (-38), 3) := by decide +kernel
theorem d10_44 : decode jdk_52_method_21_code 44 = .ok (.iload 4, 2) := by decide +kernel
theorem d10_46 : decode jdk_52_method_21_code 46 = .ok (.ireturn, 1) := by decide +kernel
def rr_cmp5_1 : Room := { frames := 0, cells := 0, slots := 0, locals := 0 }
theorem pn9 : plainName "java/lang/StringUTF16" = true := by first | (simp [plainName, overriddenIn]; done) | decide +kernel
set_option maxRecDepth 65536 in
set_option maxHeartbeats 40000000 in
theorem rm_cmp5_1 (l : Launch) (Z : State) (a0 : Array Value) (hw : ∀ d ∈ tables_1, d.before a0 Z = true) (ws : List Jvm.Cond) (b d : Addr) (kC kB : ClassId) (c0 : Int32) (h0 : Heap) (n0 : Nat) (Z0 : n0 ≤ h0.size) (VC : Arv Z h0 b kC .char (1 : Int32) [(.int c0)] (.int (0 : Int32))) (VB : Arv Z h0 d kB .byte (1 : Int32) [(.int (0 : Int32))] (.int (0 : Int32))) (hbd : b ≠ d) (gd : n0 ≤ d) (p0 : ¬ (255 : Int32) < c0) :
    Con l Z (⟨"java/lang/StringUTF16", "compress", "([CI[BII)I"⟩ : MethodName) jdk_52_method_21_code 7 (some .int) ws rr_cmp5_1 #[(.ref b), (.int (0 : Int32)), (.ref d), (.int (0 : Int32)), (.int (1 : Int32))] h0 (fun v h L => v = some (.int (1 : Int32)) ∧ Fr n0 L ∧ Keep h0 h [d] ∧ Arv Z h d kB .byte (1 : Int32) [(.int (c0.toInt8.toInt32))] (.int (0 : Int32))) := by
  refine Con.enter (plainFor_of_name pn9) ?_
  intro p e s m below meth c s₁ X0 hx hZ hby hml hret hlk hown hnm e0
  have N0 := Fr.nil n0
  refine Go.cast (g' := (mkF m 0 #[.val (.ref b), .val (.int (0 : Int32)), .val (.ref d), .val (.int (0 : Int32)), .val (.int (1 : Int32)), .unset, .unset] [])) (by first | rfl | (simp [entryFrame, mkF, argsToLocals, Value.category]; done)) ?_
  refine Go.st (T' := s₁) (g' := (mkF m 1 #[.val (.ref b), .val (.int (0 : Int32)), .val (.ref d), .val (.int (0 : Int32)), .val (.int (1 : Int32)), .unset, .unset] [(.int (0 : Int32))])) (fun _ zk => XS.iconst X0.here hx rfl (hb hby d10_0) zk) ?_
  refine Go.st (T' := s₁) (g' := (mkF m 3 #[.val (.ref b), .val (.int (0 : Int32)), .val (.ref d), .val (.int (0 : Int32)), .val (.int (1 : Int32)), .val (.int (0 : Int32)), .unset] [])) (fun _ zk => XS.istore X0.here hx rfl (hb hby d10_1) rfl (l' := #[.val (.ref b), .val (.int (0 : Int32)), .val (.ref d), .val (.int (0 : Int32)), .val (.int (1 : Int32)), .val (.int (0 : Int32)), .unset]) rfl zk) ?_
  refine Go.st (T' := s₁) (g' := (mkF m 5 #[.val (.ref b), .val (.int (0 : Int32)), .val (.ref d), .val (.int (0 : Int32)), .val (.int (1 : Int32)), .val (.int (0 : Int32)), .unset] [(.int (0 : Int32))])) (fun _ zk => XS.iload X0.here hx rfl (hb hby d10_3) rfl zk) ?_
  refine Go.st (T' := s₁) (g' := (mkF m 7 #[.val (.ref b), .val (.int (0 : Int32)), .val (.ref d), .val (.int (0 : Int32)), .val (.int (1 : Int32)), .val (.int (0 : Int32)), .unset] [(.int (1 : Int32)), (.int (0 : Int32))])) (fun _ zk => XS.iload X0.here hx rfl (hb hby d10_5) rfl zk) ?_
  refine Go.st (T' := s₁) (g' := (mkF m 10 #[.val (.ref b), .val (.int (0 : Int32)), .val (.ref d), .val (.int (0 : Int32)), .val (.int (1 : Int32)), .val (.int (0 : Int32)), .unset] [])) (fun _ zk => XS.icmpNo X0.here hx rfl (hb hby d10_7) rfl (tlt ((by decide) : (0 : Int32) < (1 : Int32))).2.1 zk) ?_
  refine Go.st (T' := s₁) (g' := (mkF m 11 #[.val (.ref b), .val (.int (0 : Int32)), .val (.ref d), .val (.int (0 : Int32)), .val (.int (1 : Int32)), .val (.int (0 : Int32)), .unset] [(.ref b)])) (fun _ zk => XS.aloadN X0.here hx rfl (hb hby d10_10) rfl rfl zk) ?_
  refine Go.st (T' := s₁) (g' := (mkF m 12 #[.val (.ref b), .val (.int (0 : Int32)), .val (.ref d), .val (.int (0 : Int32)), .val (.int (1 : Int32)), .val (.int (0 : Int32)), .unset] [(.int (0 : Int32)), (.ref b)])) (fun _ zk => XS.iloadN X0.here hx rfl (hb hby d10_11) rfl zk) ?_
  refine Go.st (T' := s₁) (g' := (mkF m 13 #[.val (.ref b), .val (.int (0 : Int32)), .val (.ref d), .val (.int (0 : Int32)), .val (.int (1 : Int32)), .val (.int (0 : Int32)), .unset] [(.int c0)])) (fun _ zk => ldCV X0 hx hZ e0 VC (j := (0 : Int32)) ⟨by decide, by decide⟩ (v := (.int c0)) rfl (g := (mkF m 12 #[.val (.ref b), .val (.int (0 : Int32)), .val (.ref d), .val (.int (0 : Int32)), .val (.int (1 : Int32)), .val (.int (0 : Int32)), .unset] [(.int (0 : Int32)), (.ref b)])) rfl (rest := []) rfl (hb hby d10_12) zk) ?_
  refine Go.st (T' := s₁) (g' := (mkF m 15 #[.val (.ref b), .val (.int (0 : Int32)), .val (.ref d), .val (.int (0 : Int32)), .val (.int (1 : Int32)), .val (.int (0 : Int32)), .val (.int c0)] [])) (fun _ zk => XS.istore X0.here hx rfl (hb hby d10_13) rfl (l' := #[.val (.ref b), .val (.int (0 : Int32)), .val (.ref d), .val (.int (0 : Int32)), .val (.int (1 : Int32)), .val (.int (0 : Int32)), .val (.int c0)]) rfl zk) ?_
  refine Go.st (T' := s₁) (g' := (mkF m 17 #[.val (.ref b), .val (.int (0 : Int32)), .val (.ref d), .val (.int (0 : Int32)), .val (.int (1 : Int32)), .val (.int (0 : Int32)), .val (.int c0)] [(.int c0)])) (fun _ zk => XS.iload X0.here hx rfl (hb hby d10_15) rfl zk) ?_
  refine Go.st (T' := s₁) (g' := (mkF m 20 #[.val (.ref b), .val (.int (0 : Int32)), .val (.ref d), .val (.int (0 : Int32)), .val (.int (1 : Int32)), .val (.int (0 : Int32)), .val (.int c0)] [(.int (255 : Int32)), (.int c0)])) (fun _ zk => XS.sipush X0.here hx rfl (hb hby d10_17) zk) ?_
  refine Go.st (T' := s₁) (g' := (mkF m 26 #[.val (.ref b), .val (.int (0 : Int32)), .val (.ref d), .val (.int (0 : Int32)), .val (.int (1 : Int32)), .val (.int (0 : Int32)), .val (.int c0)] [])) (fun _ zk => XS.icmpYes X0.here hx rfl (pc0 := 20) (pc' := 26) rfl (hb hby d10_20) rfl (flt (p0 : ¬ ((255 : Int32) < c0))).2.2.2 (by decide) (by decide) zk) ?_
  refine Go.st (T' := s₁) (g' := (mkF m 27 #[.val (.ref b), .val (.int (0 : Int32)), .val (.ref d), .val (.int (0 : Int32)), .val (.int (1 : Int32)), .val (.int (0 : Int32)), .val (.int c0)] [(.ref d)])) (fun _ zk => XS.aloadN X0.here hx rfl (hb hby d10_26) rfl rfl zk) ?_
  refine Go.st (T' := s₁) (g' := (mkF m 28 #[.val (.ref b), .val (.int (0 : Int32)), .val (.ref d), .val (.int (0 : Int32)), .val (.int (1 : Int32)), .val (.int (0 : Int32)), .val (.int c0)] [(.int (0 : Int32)), (.ref d)])) (fun _ zk => XS.iloadN X0.here hx rfl (hb hby d10_27) rfl zk) ?_
  refine Go.st (T' := s₁) (g' := (mkF m 30 #[.val (.ref b), .val (.int (0 : Int32)), .val (.ref d), .val (.int (0 : Int32)), .val (.int (1 : Int32)), .val (.int (0 : Int32)), .val (.int c0)] [(.int c0), (.int (0 : Int32)), (.ref d)])) (fun _ zk => XS.iload X0.here hx rfl (hb hby d10_28) rfl zk) ?_
  refine Go.st (T' := s₁) (g' := (mkF m 31 #[.val (.ref b), .val (.int (0 : Int32)), .val (.ref d), .val (.int (0 : Int32)), .val (.int (1 : Int32)), .val (.int (0 : Int32)), .val (.int c0)] [(.int (c0.toInt8.toInt32)), (.int (0 : Int32)), (.ref d)])) (fun _ zk => XS.i2b X0.here hx rfl (hb hby d10_30) rfl zk) ?_
  obtain ⟨T1, h1, X1, e1, W1, V1, st1⟩ := stBV X0 hx hZ e0 VB (j := (0 : Int32)) (i := 0) (by decide) rfl (Nat.le_of_ble_eq_true rfl) (g := (mkF m 31 #[.val (.ref b), .val (.int (0 : Int32)), .val (.ref d), .val (.int (0 : Int32)), .val (.int (1 : Int32)), .val (.int (0 : Int32)), .val (.int c0)] [(.int (c0.toInt8.toInt32)), (.int (0 : Int32)), (.ref d)])) rfl rfl (hb hby d10_31)
  rw [nar_b] at V1
  have V1' : Arv Z h1 d kB .byte (1 : Int32) [(.int (c0.toInt8.toInt32))] (.int (0 : Int32)) := V1
  have N1 := Fr.snoc X1 N0 gd
  refine Go.st (T' := T1) (g' := (mkF m 32 #[.val (.ref b), .val (.int (0 : Int32)), .val (.ref d), .val (.int (0 : Int32)), .val (.int (1 : Int32)), .val (.int (0 : Int32)), .val (.int c0)] [])) (fun _ zk => st1 _ zk) ?_
  refine Go.st (T' := T1) (g' := (mkF m 35 #[.val (.ref b), .val (.int ((0 : Int32) + (1 : Int32))), .val (.ref d), .val (.int (0 : Int32)), .val (.int (1 : Int32)), .val (.int (0 : Int32)), .val (.int c0)] [])) (fun _ zk => XS.iinc X1.here hx rfl (hb hby d10_32) rfl (l' := #[.val (.ref b), .val (.int ((0 : Int32) + (1 : Int32))), .val (.ref d), .val (.int (0 : Int32)), .val (.int (1 : Int32)), .val (.int (0 : Int32)), .val (.int c0)]) rfl zk) ?_
  rw [show ((0 : Int32) + (1 : Int32)) = (1 : Int32) from by decide]
  refine Go.st (T' := T1) (g' := (mkF m 38 #[.val (.ref b), .val (.int (1 : Int32)), .val (.ref d), .val (.int ((0 : Int32) + (1 : Int32))), .val (.int (1 : Int32)), .val (.int (0 : Int32)), .val (.int c0)] [])) (fun _ zk => XS.iinc X1.here hx rfl (hb hby d10_35) rfl (l' := #[.val (.ref b), .val (.int (1 : Int32)), .val (.ref d), .val (.int ((0 : Int32) + (1 : Int32))), .val (.int (1 : Int32)), .val (.int (0 : Int32)), .val (.int c0)]) rfl zk) ?_
  rw [show ((0 : Int32) + (1 : Int32)) = (1 : Int32) from by decide]
  refine Go.st (T' := T1) (g' := (mkF m 41 #[.val (.ref b), .val (.int (1 : Int32)), .val (.ref d), .val (.int (1 : Int32)), .val (.int (1 : Int32)), .val (.int ((0 : Int32) + (1 : Int32))), .val (.int c0)] [])) (fun _ zk => XS.iinc X1.here hx rfl (hb hby d10_38) rfl (l' := #[.val (.ref b), .val (.int (1 : Int32)), .val (.ref d), .val (.int (1 : Int32)), .val (.int (1 : Int32)), .val (.int ((0 : Int32) + (1 : Int32))), .val (.int c0)]) rfl zk) ?_
  rw [show ((0 : Int32) + (1 : Int32)) = (1 : Int32) from by decide]
  refine Go.st (T' := T1) (g' := (mkF m 3 #[.val (.ref b), .val (.int (1 : Int32)), .val (.ref d), .val (.int (1 : Int32)), .val (.int (1 : Int32)), .val (.int (1 : Int32)), .val (.int c0)] [])) (fun _ zk => XS.goto X1.here hx rfl (pc0 := 41) (pc' := 3) rfl (hb hby d10_41) (by decide) (by decide) zk) ?_
  refine Go.st (T' := T1) (g' := (mkF m 5 #[.val (.ref b), .val (.int (1 : Int32)), .val (.ref d), .val (.int (1 : Int32)), .val (.int (1 : Int32)), .val (.int (1 : Int32)), .val (.int c0)] [(.int (1 : Int32))])) (fun _ zk => XS.iload X1.here hx rfl (hb hby d10_3) rfl zk) ?_
  refine Go.st (T' := T1) (g' := (mkF m 7 #[.val (.ref b), .val (.int (1 : Int32)), .val (.ref d), .val (.int (1 : Int32)), .val (.int (1 : Int32)), .val (.int (1 : Int32)), .val (.int c0)] [(.int (1 : Int32)), (.int (1 : Int32))])) (fun _ zk => XS.iload X1.here hx rfl (hb hby d10_5) rfl zk) ?_
  refine Go.st (T' := T1) (g' := (mkF m 44 #[.val (.ref b), .val (.int (1 : Int32)), .val (.ref d), .val (.int (1 : Int32)), .val (.int (1 : Int32)), .val (.int (1 : Int32)), .val (.int c0)] [])) (fun _ zk => XS.icmpYes X1.here hx rfl (pc0 := 7) (pc' := 44) rfl (hb hby d10_7) rfl (flt ((by decide) : ¬ ((1 : Int32) < (1 : Int32)))).2.1 (by decide) (by decide) zk) ?_
  refine Go.st (T' := T1) (g' := (mkF m 46 #[.val (.ref b), .val (.int (1 : Int32)), .val (.ref d), .val (.int (1 : Int32)), .val (.int (1 : Int32)), .val (.int (1 : Int32)), .val (.int c0)] [(.int (1 : Int32))])) (fun _ zk => XS.iload X1.here hx rfl (hb hby d10_44) rfl zk) ?_
  refine Go.retN X1 hx hlk hret rfl (by simp) (hb hby d10_46) (by decide) (by decide) e1 ?_
  exact ⟨rfl, N1, ((Keep.refl h0 [d]).wr W1 (Or.inl (List.mem_of_getElem? (i := 0) rfl))), V1'⟩
theorem d9_0 : decode jdk_52_method_16_code 0 = .ok (.iload_n 2, 1) := by decide +kernel
theorem d9_1 : decode jdk_52_method_16_code 1 = .ok (.newarray .byte, 2) := by decide +kernel
theorem w19 {a0 : Array Value} {Z : State} (hw : ∀ d ∈ tables_1, d.before a0 Z = true) : ((Jvm.Cond.arrayClass Jvm.ClassFile.FieldType.byte)).before a0 Z = true := hw _ (List.mem_of_getElem? (i := 19) rfl)
theorem d9_3 : decode jdk_52_method_16_code 3 = .ok (.astore_n 3, 1) := by decide +kernel
theorem d9_4 : decode jdk_52_method_16_code 4 = .ok (.aload_n 0, 1) := by decide +kernel
theorem d9_5 : decode jdk_52_method_16_code 5 = .ok (.iload_n 1, 1) := by decide +kernel
theorem d9_6 : decode jdk_52_method_16_code 6 = .ok (.aload_n 3, 1) := by decide +kernel
theorem d9_7 : decode jdk_52_method_16_code 7 = .ok (.iconst 0, 1) := by decide +kernel
theorem d9_8 : decode jdk_52_method_16_code 8 = .ok (.iload_n 2, 1) := by decide +kernel
theorem w62 {a0 : Array Value} {Z : State} (hw : ∀ d ∈ tables_1, d.before a0 Z = true) : ((Jvm.Cond.code ({ cls := "java/lang/StringUTF16", name := "compress", desc := "([CI[BII)I" } : Jvm.MethodName) jdk_52_method_21_code (7 : Nat) (Option.some Jvm.ClassFile.FieldType.int))).before a0 Z = true := hw _ (List.mem_of_getElem? (i := 62) rfl)
theorem w58 {a0 : Array Value} {Z : State} (hw : ∀ d ∈ tables_1, d.before a0 Z = true) : ((Jvm.Cond.initialized "java/lang/StringUTF16")).before a0 Z = true := hw _ (List.mem_of_getElem? (i := 58) rfl)
theorem pd10 : parseMethodDescriptor "([CI[BII)I" = some ⟨[(.array .char), .int, (.array .byte), .int, .int], some .int⟩ := by decide +kernel
theorem d9_9 : decode jdk_52_method_16_code 9 = .ok (.invokestatic 115, 3) := by decide +kernel
theorem w60 {a0 : Array Value} {Z : State} (hw : ∀ d ∈ tables_1, d.before a0 Z = true) : ((Jvm.Cond.methodLink "java/lang/StringUTF16" (115 : Nat) ({ cls := "java/lang/StringUTF16", name := "compress", desc := "([CI[BII)I" } : Jvm.MethodName))).before a0 Z = true := hw _ (List.mem_of_getElem? (i := 60) rfl)
theorem w61 {a0 : Array Value} {Z : State} (hw : ∀ d ∈ tables_1, d.before a0 Z = true) : ((Jvm.Cond.static ({ cls := "java/lang/StringUTF16", name := "compress", desc := "([CI[BII)I" } : Jvm.MethodName))).before a0 Z = true := hw _ (List.mem_of_getElem? (i := 61) rfl)
theorem d9_12 : decode jdk_52_method_16_code 12 = .ok (.istore 4, 2) := by decide +kernel
theorem d9_14 : decode jdk_52_method_16_code 14 = .ok (.iload 4, 2) := by decide +kernel
theorem d9_16 : decode jdk_52_method_16_code 16 = .ok (.iload_n 2, 1) := by decide +kernel
theorem d9_17 : decode jdk_52_method_16_code 17 = .ok (.if_icmp .eq 40, 3) := by decide +kernel
theorem d9_57 : decode jdk_52_method_16_code 57 = .ok (.aload_n 3, 1) := by decide +kernel
theorem d9_58 : decode jdk_52_method_16_code 58 = .ok (.areturn, 1) := by decide +kernel
def rr_cmp3_1 : Room := { frames := 1, cells := 1, slots := 1, locals := 18 }
set_option maxRecDepth 65536 in
set_option maxHeartbeats 40000000 in
theorem rm_cmp3_1 (l : Launch) (Z : State) (a0 : Array Value) (hw : ∀ d ∈ tables_1, d.before a0 Z = true) (ws : List Jvm.Cond) (b : Addr) (kC : ClassId) (c0 : Int32) (h0 : Heap) (n0 : Nat) (Z0 : n0 ≤ h0.size) (VC : Arv Z h0 b kC .char (1 : Int32) [(.int c0)] (.int (0 : Int32))) (p0 : ¬ (255 : Int32) < c0) :
    Con l Z (⟨"java/lang/StringUTF16", "compress", "([CII)[B"⟩ : MethodName) jdk_52_method_16_code 6 (some (.array .byte)) ws rr_cmp3_1 #[(.ref b), (.int (0 : Int32)), (.int (1 : Int32))] h0 (fun v h L => ∃ (t : Addr) (k : ClassId), v = some (.ref t) ∧ Fr n0 L ∧ Ext h0 h ∧ h0.size ≤ t ∧ Arv Z h t k .byte (1 : Int32) [(.int (c0.toInt8.toInt32))] (.int (0 : Int32))) := by
  refine Con.enter (plainFor_of_name pn9) ?_
  intro p e s m below meth c s₁ X0 hx hZ hby hml hret hlk hown hnm e0
  have N0 := Fr.nil n0
  refine Go.cast (g' := (mkF m 0 #[.val (.ref b), .val (.int (0 : Int32)), .val (.int (1 : Int32)), .unset, .unset, .unset] [])) (by first | rfl | (simp [entryFrame, mkF, argsToLocals, Value.category]; done)) ?_
  refine Go.st (T' := s₁) (g' := (mkF m 1 #[.val (.ref b), .val (.int (0 : Int32)), .val (.int (1 : Int32)), .unset, .unset, .unset] [(.int (1 : Int32))])) (fun _ zk => XS.iloadN X0.here hx rfl (hb hby d9_0) rfl zk) ?_
  obtain ⟨T1, h1, k1, X1, e1, E1, A1, st1⟩ := newP (aty := .byte) X0 hx hZ (w19 hw) e0 (g := (mkF m 1 #[.val (.ref b), .val (.int (0 : Int32)), .val (.int (1 : Int32)), .unset, .unset, .unset] [(.int (1 : Int32))])) rfl (hb hby d9_1) rfl (by decide) (cap := 1) (by decide) (by decide) (by decide) (by decide)
  obtain ⟨b1, g1⟩ : ∃ z, z = h0.size := ⟨_, rfl⟩
  rw [← g1] at A1 st1
  have V1 : Arv Z h1 b1 k1 .byte (1 : Int32) [(.int (0 : Int32))] (.int (0 : Int32)) := (Arv.new A1 (by decide)).pad (pad_rep [] (.int (0 : Int32)) 1)
  refine Go.st (T' := T1) (g' := (mkF m 3 #[.val (.ref b), .val (.int (0 : Int32)), .val (.int (1 : Int32)), .unset, .unset, .unset] [(.ref b1)])) (fun _ zk => st1 _ zk) ?_
  refine Go.st (T' := T1) (g' := (mkF m 4 #[.val (.ref b), .val (.int (0 : Int32)), .val (.int (1 : Int32)), .val (.ref b1), .unset, .unset] [])) (fun _ zk => XS.astoreN X1.here hx rfl (hb hby d9_3) rfl rfl (l' := #[.val (.ref b), .val (.int (0 : Int32)), .val (.int (1 : Int32)), .val (.ref b1), .unset, .unset]) rfl zk) ?_
  refine Go.st (T' := T1) (g' := (mkF m 5 #[.val (.ref b), .val (.int (0 : Int32)), .val (.int (1 : Int32)), .val (.ref b1), .unset, .unset] [(.ref b)])) (fun _ zk => XS.aloadN X1.here hx rfl (hb hby d9_4) rfl rfl zk) ?_
  refine Go.st (T' := T1) (g' := (mkF m 6 #[.val (.ref b), .val (.int (0 : Int32)), .val (.int (1 : Int32)), .val (.ref b1), .unset, .unset] [(.int (0 : Int32)), (.ref b)])) (fun _ zk => XS.iloadN X1.here hx rfl (hb hby d9_5) rfl zk) ?_
  refine Go.st (T' := T1) (g' := (mkF m 7 #[.val (.ref b), .val (.int (0 : Int32)), .val (.int (1 : Int32)), .val (.ref b1), .unset, .unset] [(.ref b1), (.int (0 : Int32)), (.ref b)])) (fun _ zk => XS.aloadN X1.here hx rfl (hb hby d9_6) rfl rfl zk) ?_
  refine Go.st (T' := T1) (g' := (mkF m 8 #[.val (.ref b), .val (.int (0 : Int32)), .val (.int (1 : Int32)), .val (.ref b1), .unset, .unset] [(.int (0 : Int32)), (.ref b1), (.int (0 : Int32)), (.ref b)])) (fun _ zk => XS.iconst X1.here hx rfl (hb hby d9_7) zk) ?_
  refine Go.st (T' := T1) (g' := (mkF m 9 #[.val (.ref b), .val (.int (0 : Int32)), .val (.int (1 : Int32)), .val (.ref b1), .unset, .unset] [(.int (1 : Int32)), (.int (0 : Int32)), (.ref b1), (.int (0 : Int32)), (.ref b)])) (fun _ zk => XS.iloadN X1.here hx rfl (hb hby d9_8) rfl zk) ?_
  have x2 : Ext h0 h1 := E1
  have f3 := VC.ext x2
  refine Go.callSt (y := (⟨"java/lang/StringUTF16", "compress", "([CI[BII)I"⟩ : MethodName)) X1 hx hZ hown e1 (w60 hw) (w61 hw) (w58 hw) (w62 hw) (by decide) (argsL := [(.ref b), (.int (0 : Int32)), (.ref b1), (.int (0 : Int32)), (.int (1 : Int32))]) (rest := []) (W := 0) (rm_cmp5_1 l Z a0 hw [] b b1 kC k1 c0 h1 n0 (Nat.le_trans Z0 E1.1) f3 V1 (ne_lt VC.lt (Nat.le_refl _) (Nat.le_of_eq g1.symm)) (Nat.le_trans Z0 (Nat.le_trans (Nat.le_refl _) (Nat.le_of_eq g1.symm))) p0) rfl (lenOf pd10 rfl) rfl (by rw [hml]; rfl) rfl (by show 2 * 0 + _ ≤ _; exact Nat.le_of_eq rfl) (by decide) (by decide) (by decide) (by decide) (hb hby d9_9) ?_
  intro v4 T4 h4 L4 X4 e4 q4
  obtain ⟨hv4, Nf4, K4, V4⟩ := q4
  subst hv4
  have N4 := Fr.app N0 Nf4
  show Go p.tables e below _ T4 (mkF m 12 #[.val (.ref b), .val (.int (0 : Int32)), .val (.int (1 : Int32)), .val (.ref b1), .unset, .unset] [(.int (1 : Int32))])
  refine Go.st (T' := T4) (g' := (mkF m 14 #[.val (.ref b), .val (.int (0 : Int32)), .val (.int (1 : Int32)), .val (.ref b1), .val (.int (1 : Int32)), .unset] [])) (fun _ zk => XS.istore X4.here hx rfl (hb hby d9_12) rfl (l' := #[.val (.ref b), .val (.int (0 : Int32)), .val (.int (1 : Int32)), .val (.ref b1), .val (.int (1 : Int32)), .unset]) rfl zk) ?_
  refine Go.st (T' := T4) (g' := (mkF m 16 #[.val (.ref b), .val (.int (0 : Int32)), .val (.int (1 : Int32)), .val (.ref b1), .val (.int (1 : Int32)), .unset] [(.int (1 : Int32))])) (fun _ zk => XS.iload X4.here hx rfl (hb hby d9_14) rfl zk) ?_
  refine Go.st (T' := T4) (g' := (mkF m 17 #[.val (.ref b), .val (.int (0 : Int32)), .val (.int (1 : Int32)), .val (.ref b1), .val (.int (1 : Int32)), .unset] [(.int (1 : Int32)), (.int (1 : Int32))])) (fun _ zk => XS.iloadN X4.here hx rfl (hb hby d9_16) rfl zk) ?_
  refine Go.st (T' := T4) (g' := (mkF m 57 #[.val (.ref b), .val (.int (0 : Int32)), .val (.int (1 : Int32)), .val (.ref b1), .val (.int (1 : Int32)), .unset] [])) (fun _ zk => XS.icmpYes X4.here hx rfl (pc0 := 17) (pc' := 57) rfl (hb hby d9_17) rfl (teq (rfl : (1 : Int32) = (1 : Int32))).1 (by decide) (by decide) zk) ?_
  refine Go.st (T' := T4) (g' := (mkF m 58 #[.val (.ref b), .val (.int (0 : Int32)), .val (.int (1 : Int32)), .val (.ref b1), .val (.int (1 : Int32)), .unset] [(.ref b1)])) (fun _ zk => XS.aloadN X4.here hx rfl (hb hby d9_57) rfl rfl zk) ?_
  have x5 : Ext h0 h4 := (x2.thenK K4 (allS (P := fun x => h0.size ≤ x) (Nat.le_of_eq g1.symm) all0))
  refine Go.retA X4 hx hlk hret rfl rfl (hb hby d9_58) (by decide) (by decide) e4 ?_
  exact ⟨_, _, rfl, N4, x5, (Nat.le_trans (Nat.le_refl _) (Nat.le_of_eq g1.symm)), V4⟩
theorem d11_0 : decode jdk_52_method_15_code 0 = .ok (.iload_n 1, 1) := by decide +kernel
theorem d11_1 : decode jdk_52_method_15_code 1 = .ok (.aload_n 0, 1) := by decide +kernel
theorem d11_2 : decode jdk_52_method_15_code 2 = .ok (.arraylength, 1) := by decide +kernel
theorem d11_3 : decode jdk_52_method_15_code 3 = .ok (.isub, 1) := by decide +kernel
theorem d11_4 : decode jdk_52_method_15_code 4 = .ok (.bipush 31, 2) := by decide +kernel
theorem d11_6 : decode jdk_52_method_15_code 6 = .ok (.iushr, 1) := by decide +kernel
theorem d11_7 : decode jdk_52_method_15_code 7 = .ok (.i2b, 1) := by decide +kernel
theorem d11_8 : decode jdk_52_method_15_code 8 = .ok (.ireturn, 1) := by decide +kernel
def rr_codl_1 : Room := { frames := 0, cells := 0, slots := 0, locals := 0 }
set_option maxRecDepth 65536 in
set_option maxHeartbeats 40000000 in
theorem rm_codl_1 (l : Launch) (Z : State) (a0 : Array Value) (hw : ∀ d ∈ tables_1, d.before a0 Z = true) (ws : List Jvm.Cond) (t : Addr) (k : ClassId) (x0 : Int32) (h0 : Heap) (n0 : Nat) (Z0 : n0 ≤ h0.size) (VB : Arv Z h0 t k .byte (1 : Int32) [(.int x0)] (.int (0 : Int32))) :
    Con l Z (⟨"java/lang/StringUTF16", "coderFromArrayLen", "([BI)B"⟩ : MethodName) jdk_52_method_15_code 2 (some .byte) ws rr_codl_1 #[(.ref t), (.int (1 : Int32))] h0 (fun v h L => v = some (.int 0) ∧ Fr n0 L ∧ h = h0) := by
  refine Con.enter (plainFor_of_name pn9) ?_
  intro p e s m below meth c s₁ X0 hx hZ hby hml hret hlk hown hnm e0
  have N0 := Fr.nil n0
  refine Go.cast (g' := (mkF m 0 #[.val (.ref t), .val (.int (1 : Int32))] [])) (by first | rfl | (simp [entryFrame, mkF, argsToLocals, Value.category]; done)) ?_
  refine Go.st (T' := s₁) (g' := (mkF m 1 #[.val (.ref t), .val (.int (1 : Int32))] [(.int (1 : Int32))])) (fun _ zk => XS.iloadN X0.here hx rfl (hb hby d11_0) rfl zk) ?_
  refine Go.st (T' := s₁) (g' := (mkF m 2 #[.val (.ref t), .val (.int (1 : Int32))] [(.ref t), (.int (1 : Int32))])) (fun _ zk => XS.aloadN X0.here hx rfl (hb hby d11_1) rfl rfl zk) ?_
  refine Go.st (T' := s₁) (g' := (mkF m 3 #[.val (.ref t), .val (.int (1 : Int32))] [(.int (1 : Int32)), (.int (1 : Int32))])) (fun _ zk => lenV X0 hx hZ e0 VB (g := (mkF m 2 #[.val (.ref t), .val (.int (1 : Int32))] [(.ref t), (.int (1 : Int32))])) rfl (rest := [(.int (1 : Int32))]) rfl (hb hby d11_2) zk) ?_
  refine Go.st (T' := s₁) (g' := (mkF m 4 #[.val (.ref t), .val (.int (1 : Int32))] [(.int ((1 : Int32) - (1 : Int32)))])) (fun _ zk => XS.isub X0.here hx rfl (hb hby d11_3) rfl zk) ?_
  rw [show ((1 : Int32) - (1 : Int32)) = (0 : Int32) from by decide]
  refine Go.st (T' := s₁) (g' := (mkF m 6 #[.val (.ref t), .val (.int (1 : Int32))] [(.int (31 : Int32)), (.int (0 : Int32))])) (fun _ zk => XS.bipush X0.here hx rfl (hb hby d11_4) zk) ?_
  refine Go.st (T' := s₁) (g' := (mkF m 7 #[.val (.ref t), .val (.int (1 : Int32))] [(.int (((0 : Int32).toUInt32 >>> ((31 : Int32) &&& 31).toUInt32).toInt32))])) (fun _ zk => XS.iushr X0.here hx rfl (hb hby d11_6) rfl zk) ?_
  rw [show (((0 : Int32).toUInt32 >>> ((31 : Int32) &&& 31).toUInt32).toInt32) = (0 : Int32) from by decide]
  refine Go.st (T' := s₁) (g' := (mkF m 8 #[.val (.ref t), .val (.int (1 : Int32))] [(.int ((0 : Int32).toInt8.toInt32))])) (fun _ zk => XS.i2b X0.here hx rfl (hb hby d11_7) rfl zk) ?_
  rw [show ((0 : Int32).toInt8.toInt32) = (0 : Int32) from by decide]
  refine Go.retN X0 hx hlk hret rfl (by simp) (hb hby d11_8) (by decide) (by decide) e0 ?_
  exact ⟨rfl, N0, rfl⟩
theorem d3_0 : decode jdk_42_method_149_code 0 = .ok (.aload_n 0, 1) := by decide +kernel
theorem d3_1 : decode jdk_42_method_149_code 1 = .ok (.invokespecial 1, 3) := by decide +kernel
theorem w15 {a0 : Array Value} {Z : State} (hw : ∀ d ∈ tables_1, d.before a0 Z = true) : ((Jvm.Cond.methodLink "java/lang/String" (1 : Nat) ({ cls := "java/lang/Object", name := "<init>", desc := "()V" } : Jvm.MethodName))).before a0 Z = true := hw _ (List.mem_of_getElem? (i := 15) rfl)
theorem d3_4 : decode jdk_42_method_149_code 4 = .ok (.iload_n 3, 1) := by decide +kernel
theorem d3_5 : decode jdk_42_method_149_code 5 = .ok (.ifCond .ne 22, 3) := by decide +kernel
theorem d3_27 : decode jdk_42_method_149_code 27 = .ok (.getstatic 38, 3) := by decide +kernel
theorem d3_30 : decode jdk_42_method_149_code 30 = .ok (.ifCond .eq 28, 3) := by decide +kernel
theorem d3_33 : decode jdk_42_method_149_code 33 = .ok (.aload_n 1, 1) := by decide +kernel
theorem d3_34 : decode jdk_42_method_149_code 34 = .ok (.iload_n 2, 1) := by decide +kernel
theorem d3_35 : decode jdk_42_method_149_code 35 = .ok (.iload_n 3, 1) := by decide +kernel
theorem w59 {a0 : Array Value} {Z : State} (hw : ∀ d ∈ tables_1, d.before a0 Z = true) : ((Jvm.Cond.code ({ cls := "java/lang/StringUTF16", name := "compress", desc := "([CII)[B" } : Jvm.MethodName) jdk_52_method_16_code (6 : Nat) (Option.some (Jvm.ClassFile.FieldType.array Jvm.ClassFile.FieldType.byte)))).before a0 Z = true := hw _ (List.mem_of_getElem? (i := 59) rfl)
theorem pd11 : parseMethodDescriptor "([CII)[B" = some ⟨[(.array .char), .int, .int], some (.array .byte)⟩ := by decide +kernel
theorem d3_36 : decode jdk_42_method_149_code 36 = .ok (.invokestatic 177, 3) := by decide +kernel
theorem w56 {a0 : Array Value} {Z : State} (hw : ∀ d ∈ tables_1, d.before a0 Z = true) : ((Jvm.Cond.methodLink "java/lang/String" (177 : Nat) ({ cls := "java/lang/StringUTF16", name := "compress", desc := "([CII)[B" } : Jvm.MethodName))).before a0 Z = true := hw _ (List.mem_of_getElem? (i := 56) rfl)
theorem w57 {a0 : Array Value} {Z : State} (hw : ∀ d ∈ tables_1, d.before a0 Z = true) : ((Jvm.Cond.static ({ cls := "java/lang/StringUTF16", name := "compress", desc := "([CII)[B" } : Jvm.MethodName))).before a0 Z = true := hw _ (List.mem_of_getElem? (i := 57) rfl)
theorem d3_39 : decode jdk_42_method_149_code 39 = .ok (.astore 5, 2) := by decide +kernel
theorem d3_41 : decode jdk_42_method_149_code 41 = .ok (.aload_n 0, 1) := by decide +kernel
theorem d3_42 : decode jdk_42_method_149_code 42 = .ok (.aload 5, 2) := by decide +kernel
theorem d3_44 : decode jdk_42_method_149_code 44 = .ok (.iload_n 3, 1) := by decide +kernel
theorem w65 {a0 : Array Value} {Z : State} (hw : ∀ d ∈ tables_1, d.before a0 Z = true) : ((Jvm.Cond.code ({ cls := "java/lang/StringUTF16", name := "coderFromArrayLen", desc := "([BI)B" } : Jvm.MethodName) jdk_52_method_15_code (2 : Nat) (Option.some Jvm.ClassFile.FieldType.byte))).before a0 Z = true := hw _ (List.mem_of_getElem? (i := 65) rfl)
theorem pd12 : parseMethodDescriptor "([BI)B" = some ⟨[(.array .byte), .int], some .byte⟩ := by decide +kernel
theorem d3_45 : decode jdk_42_method_149_code 45 = .ok (.invokestatic 47, 3) := by decide +kernel
theorem w63 {a0 : Array Value} {Z : State} (hw : ∀ d ∈ tables_1, d.before a0 Z = true) : ((Jvm.Cond.methodLink "java/lang/String" (47 : Nat) ({ cls := "java/lang/StringUTF16", name := "coderFromArrayLen", desc := "([BI)B" } : Jvm.MethodName))).before a0 Z = true := hw _ (List.mem_of_getElem? (i := 63) rfl)
theorem w64 {a0 : Array Value} {Z : State} (hw : ∀ d ∈ tables_1, d.before a0 Z = true) : ((Jvm.Cond.static ({ cls := "java/lang/StringUTF16", name := "coderFromArrayLen", desc := "([BI)B" } : Jvm.MethodName))).before a0 Z = true := hw _ (List.mem_of_getElem? (i := 64) rfl)
theorem d3_48 : decode jdk_42_method_149_code 48 = .ok (.putfield 15, 3) := by decide +kernel
theorem w5 {a0 : Array Value} {Z : State} (hw : ∀ d ∈ tables_1, d.before a0 Z = true) : ((Jvm.Cond.instantiable "java/lang/String" (4 : Nat))).before a0 Z = true := hw _ (List.mem_of_getElem? (i := 5) rfl)
theorem w21 {a0 : Array Value} {Z : State} (hw : ∀ d ∈ tables_1, d.before a0 Z = true) : ((Jvm.Cond.laysFinal "java/lang/String" "java/lang/String" "coder" "B")).before a0 Z = true := hw _ (List.mem_of_getElem? (i := 21) rfl)
theorem d3_51 : decode jdk_42_method_149_code 51 = .ok (.aload_n 0, 1) := by decide +kernel
theorem d3_52 : decode jdk_42_method_149_code 52 = .ok (.aload 5, 2) := by decide +kernel
theorem d3_54 : decode jdk_42_method_149_code 54 = .ok (.putfield 9, 3) := by decide +kernel
theorem w20 {a0 : Array Value} {Z : State} (hw : ∀ d ∈ tables_1, d.before a0 Z = true) : ((Jvm.Cond.laysFinal "java/lang/String" "java/lang/String" "value" "[B")).before a0 Z = true := hw _ (List.mem_of_getElem? (i := 20) rfl)
theorem d3_57 : decode jdk_42_method_149_code 57 = .ok (.return_, 1) := by decide +kernel
def rr_init4_1 : Room := { frames := 2, cells := 1, slots := 1, locals := 35 }
set_option maxRecDepth 65536 in
set_option maxHeartbeats 40000000 in
theorem rm_init4_1 (l : Launch) (Z : State) (a0 : Array Value) (hw : ∀ d ∈ tables_1, d.before a0 Z = true) (ws : List Jvm.Cond) (a1 b : Addr) (kC : ClassId) (zc : Int32) (c0 : Int32) (h0 : Heap) (n0 : Nat) (Z0 : n0 ≤ h0.size) (O0 : Old Z n0 h0) (E0 : Exa Z h0 a1 "java/lang/String") (g0 : n0 ≤ a1) (C0 : Fld Z h0 a1 "java/lang/String" "coder" "B" (.int (0 : Int32))) (V0 : Fld Z h0 a1 "java/lang/String" "value" "[B" .null) (VC : Arv Z h0 b kC .char (1 : Int32) [(.int c0)] (.int (0 : Int32))) (CS : Sta Z Z.heap "java/lang/String" "COMPACT_STRINGS" "Z" (.int zc)) (hz : ¬ zc = 0) (p0 : ¬ (255 : Int32) < c0) :
    Con l Z (⟨"java/lang/String", "<init>", "([CIILjava/lang/Void;)V"⟩ : MethodName) jdk_42_method_149_code 6 none ws rr_init4_1 #[(.ref a1), (.ref b), (.int (0 : Int32)), (.int (1 : Int32)), .null] h0 (fun v h L => v = none ∧ Fr n0 L ∧ Keep h0 h [a1] ∧ Fld Z h a1 "java/lang/String" "coder" "B" (.int (0 : Int32)) ∧ ∃ (t : Addr) (k : ClassId), h0.size ≤ t ∧ Fld Z h a1 "java/lang/String" "value" "[B" (.ref t) ∧ Arv Z h t k .byte (1 : Int32) [(.int (c0.toInt8.toInt32))] (.int (0 : Int32))) := by
  refine Con.enter (plainFor_of_name pn2) ?_
  intro p e s m below meth c s₁ X0 hx hZ hby hml hret hlk hown hnm e0
  have N0 := Fr.nil n0
  refine Go.cast (g' := (mkF m 0 #[.val (.ref a1), .val (.ref b), .val (.int (0 : Int32)), .val (.int (1 : Int32)), .val .null, .unset] [])) (by first | rfl | (simp [entryFrame, mkF, argsToLocals, Value.category]; done)) ?_
  refine Go.st (T' := s₁) (g' := (mkF m 1 #[.val (.ref a1), .val (.ref b), .val (.int (0 : Int32)), .val (.int (1 : Int32)), .val .null, .unset] [(.ref a1)])) (fun _ zk => XS.aloadN X0.here hx rfl (hb hby d3_0) rfl rfl zk) ?_
  obtain ⟨T1, X1, e1, st1⟩ := initO X0 hx hZ hown (w15 hw) (w16 hw) (w17 hw) e0 (g := (mkF m 1 #[.val (.ref a1), .val (.ref b), .val (.int (0 : Int32)), .val (.int (1 : Int32)), .val .null, .unset] [(.ref a1)])) rfl (by rw [hml]; rfl) rfl (hb hby d3_1) (by decide) (W := 0) (by show 2 * 0 + _ ≤ _; exact Nat.le_of_eq rfl) (by decide)
  refine Go.st (T' := T1) (g' := (mkF m 4 #[.val (.ref a1), .val (.ref b), .val (.int (0 : Int32)), .val (.int (1 : Int32)), .val .null, .unset] [])) (fun _ zk => st1 _ zk) ?_
  refine Go.st (T' := T1) (g' := (mkF m 5 #[.val (.ref a1), .val (.ref b), .val (.int (0 : Int32)), .val (.int (1 : Int32)), .val .null, .unset] [(.int (1 : Int32))])) (fun _ zk => XS.iloadN X1.here hx rfl (hb hby d3_4) rfl zk) ?_
  refine Go.st (T' := T1) (g' := (mkF m 27 #[.val (.ref a1), .val (.ref b), .val (.int (0 : Int32)), .val (.int (1 : Int32)), .val .null, .unset] [])) (fun _ zk => XS.ifYes X1.here hx rfl (pc0 := 5) (pc' := 27) rfl (hb hby d3_5) rfl ((if0 _ _).trans (feq ((by decide) : ¬ ((1 : Int32) = (0 : Int32)))).2) (by decide) (by decide) zk) ?_
  obtain ⟨T2, X2, e2, st2⟩ := getS2 X1 hx hZ hown (host := "") (Or.inl (w55 hw)) Via.refl e1 (CS.ext O0.2) (g := (mkF m 27 #[.val (.ref a1), .val (.ref b), .val (.int (0 : Int32)), .val (.int (1 : Int32)), .val .null, .unset] [])) rfl (hb hby d3_27)
  refine Go.st (T' := T2) (g' := (mkF m 30 #[.val (.ref a1), .val (.ref b), .val (.int (0 : Int32)), .val (.int (1 : Int32)), .val .null, .unset] [(.int zc)])) (fun _ zk => st2 _ zk) ?_
  refine Go.st (T' := T2) (g' := (mkF m 33 #[.val (.ref a1), .val (.ref b), .val (.int (0 : Int32)), .val (.int (1 : Int32)), .val .null, .unset] [])) (fun _ zk => XS.ifNo X2.here hx rfl (hb hby d3_30) rfl ((if0 _ _).trans (feq (hz : ¬ (zc = (0 : Int32)))).1) zk) ?_
  refine Go.st (T' := T2) (g' := (mkF m 34 #[.val (.ref a1), .val (.ref b), .val (.int (0 : Int32)), .val (.int (1 : Int32)), .val .null, .unset] [(.ref b)])) (fun _ zk => XS.aloadN X2.here hx rfl (hb hby d3_33) rfl rfl zk) ?_
  refine Go.st (T' := T2) (g' := (mkF m 35 #[.val (.ref a1), .val (.ref b), .val (.int (0 : Int32)), .val (.int (1 : Int32)), .val .null, .unset] [(.int (0 : Int32)), (.ref b)])) (fun _ zk => XS.iloadN X2.here hx rfl (hb hby d3_34) rfl zk) ?_
  refine Go.st (T' := T2) (g' := (mkF m 36 #[.val (.ref a1), .val (.ref b), .val (.int (0 : Int32)), .val (.int (1 : Int32)), .val .null, .unset] [(.int (1 : Int32)), (.int (0 : Int32)), (.ref b)])) (fun _ zk => XS.iloadN X2.here hx rfl (hb hby d3_35) rfl zk) ?_
  refine Go.callSt (y := (⟨"java/lang/StringUTF16", "compress", "([CII)[B"⟩ : MethodName)) X2 hx hZ hown e2 (w56 hw) (w57 hw) (w58 hw) (w59 hw) (by decide) (argsL := [(.ref b), (.int (0 : Int32)), (.int (1 : Int32))]) (rest := []) (W := 0) (rm_cmp3_1 l Z a0 hw [] b kC c0 h0 n0 Z0 VC p0) rfl (lenOf pd11 rfl) rfl (by rw [hml]; rfl) rfl (by show 2 * 0 + _ ≤ _; exact Nat.le_of_eq rfl) (by decide) (by decide) (by decide) (by decide) (hb hby d3_36) ?_
  intro v3 T3 h3 L3 X3 e3 q3
  obtain ⟨t3, k3, hv3, Nf3, E3, ge3, V3⟩ := q3
  subst hv3
  have N3 := Fr.app N0 Nf3
  show Go p.tables e below _ T3 (mkF m 39 #[.val (.ref a1), .val (.ref b), .val (.int (0 : Int32)), .val (.int (1 : Int32)), .val .null, .unset] [(.ref t3)])
  refine Go.st (T' := T3) (g' := (mkF m 41 #[.val (.ref a1), .val (.ref b), .val (.int (0 : Int32)), .val (.int (1 : Int32)), .val .null, .val (.ref t3)] [])) (fun _ zk => XS.astore X3.here hx rfl (hb hby d3_39) rfl rfl (l' := #[.val (.ref a1), .val (.ref b), .val (.int (0 : Int32)), .val (.int (1 : Int32)), .val .null, .val (.ref t3)]) rfl zk) ?_
  refine Go.st (T' := T3) (g' := (mkF m 42 #[.val (.ref a1), .val (.ref b), .val (.int (0 : Int32)), .val (.int (1 : Int32)), .val .null, .val (.ref t3)] [(.ref a1)])) (fun _ zk => XS.aloadN X3.here hx rfl (hb hby d3_41) rfl rfl zk) ?_
  refine Go.st (T' := T3) (g' := (mkF m 44 #[.val (.ref a1), .val (.ref b), .val (.int (0 : Int32)), .val (.int (1 : Int32)), .val .null, .val (.ref t3)] [(.ref t3), (.ref a1)])) (fun _ zk => XS.aload X3.here hx rfl (hb hby d3_42) rfl rfl zk) ?_
  refine Go.st (T' := T3) (g' := (mkF m 45 #[.val (.ref a1), .val (.ref b), .val (.int (0 : Int32)), .val (.int (1 : Int32)), .val .null, .val (.ref t3)] [(.int (1 : Int32)), (.ref t3), (.ref a1)])) (fun _ zk => XS.iloadN X3.here hx rfl (hb hby d3_44) rfl zk) ?_
  refine Go.callSt (y := (⟨"java/lang/StringUTF16", "coderFromArrayLen", "([BI)B"⟩ : MethodName)) X3 hx hZ hown e3 (w63 hw) (w64 hw) (w58 hw) (w65 hw) (by decide) (argsL := [(.ref t3), (.int (1 : Int32))]) (rest := [(.ref a1)]) (W := 1) (rm_codl_1 l Z a0 hw [] t3 k3 (c0.toInt8.toInt32) h3 n0 (Nat.le_trans Z0 E3.1) V3) rfl (lenOf pd12 rfl) rfl (by rw [hml]; rfl) rfl (by show 2 * 0 + _ ≤ _; exact Nat.le_of_eq rfl) (by decide) (by decide) (by decide) (by decide) (hb hby d3_45) ?_
  intro v4 T4 h4 L4 X4 e4 q4
  obtain ⟨hv4, Nf4, hh4⟩ := q4
  subst hv4
  have E4 : T4.heap = h3 := e4.trans hh4
  have N4 := Fr.app N3 Nf4
  show Go p.tables e below _ T4 (mkF m 48 #[.val (.ref a1), .val (.ref b), .val (.int (0 : Int32)), .val (.int (1 : Int32)), .val .null, .val (.ref t3)] [(.int (0 : Int32)), (.ref a1)])
  have x6 : Ext h0 h3 := E3
  have f7 := C0.ext x6
  have f8 := E0.ext x6
  obtain ⟨T5, h5, X5, e5, W5, st5⟩ := putF X4 hx hZ hown (host := "") (Or.inl (w25 hw)) Via.refl E4 f7 f8 (Or.inr ⟨(w21 hw), rfl, hnm⟩) (w5 hw) (ty := .byte) (by decide) rfl rfl (g := (mkF m 48 #[.val (.ref a1), .val (.ref b), .val (.int (0 : Int32)), .val (.int (1 : Int32)), .val .null, .val (.ref t3)] [(.int (0 : Int32)), (.ref a1)])) rfl rfl (hb hby d3_48)
  have F5 := f7.same W5
  have N5 := Fr.snoc X5 N4 g0
  refine Go.st (T' := T5) (g' := (mkF m 51 #[.val (.ref a1), .val (.ref b), .val (.int (0 : Int32)), .val (.int (1 : Int32)), .val .null, .val (.ref t3)] [])) (fun _ zk => st5 _ zk) ?_
  refine Go.st (T' := T5) (g' := (mkF m 52 #[.val (.ref a1), .val (.ref b), .val (.int (0 : Int32)), .val (.int (1 : Int32)), .val .null, .val (.ref t3)] [(.ref a1)])) (fun _ zk => XS.aloadN X5.here hx rfl (hb hby d3_51) rfl rfl zk) ?_
  refine Go.st (T' := T5) (g' := (mkF m 54 #[.val (.ref a1), .val (.ref b), .val (.int (0 : Int32)), .val (.int (1 : Int32)), .val .null, .val (.ref t3)] [(.ref t3), (.ref a1)])) (fun _ zk => XS.aload X5.here hx rfl (hb hby d3_52) rfl rfl zk) ?_
  have f10 := ((V0.ext E3).other W5 (Or.inr (slot_ne (Or.inr (w20 hw)) (Or.inr (w21 hw)) (by decide) (t := (.array .byte)) (t' := .byte) (by decide) (by decide))))
  have f11 := (f8.wr W5)
  obtain ⟨T9, h9, X9, e9, W9, st9⟩ := putF X5 hx hZ hown (host := "") (Or.inl (w24 hw)) Via.refl e5 f10 f11 (Or.inr ⟨(w20 hw), rfl, hnm⟩) (w5 hw) (ty := (.array .byte)) (by decide) rfl rfl (g := (mkF m 54 #[.val (.ref a1), .val (.ref b), .val (.int (0 : Int32)), .val (.int (1 : Int32)), .val .null, .val (.ref t3)] [(.ref t3), (.ref a1)])) rfl rfl (hb hby d3_54)
  have F9 := f10.same W9
  have N9 := Fr.snoc X9 N5 g0
  refine Go.st (T' := T9) (g' := (mkF m 57 #[.val (.ref a1), .val (.ref b), .val (.int (0 : Int32)), .val (.int (1 : Int32)), .val .null, .val (.ref t3)] [])) (fun _ zk => st9 _ zk) ?_
  have f12 := (F5.other W9 (Or.inr (slot_ne (Or.inr (w21 hw)) (Or.inr (w20 hw)) (by decide) (t := .byte) (t' := (.array .byte)) (by decide) (by decide))))
  have f13 := ((V3.other W5 (Ne.symm (ne_lt E0.lt (Nat.le_refl _) ge3))).other W9 (Ne.symm (ne_lt E0.lt (Nat.le_refl _) ge3)))
  refine Go.retV X9 hx hlk hret (hb hby d3_57) (by decide) (by decide) e9 ?_
  exact ⟨rfl, N9, ((((Keep.refl h0 [a1]).ext E3).wr W5 (Or.inl (List.mem_of_getElem? (i := 0) rfl))).wr W9 (Or.inl (List.mem_of_getElem? (i := 0) rfl))), f12, t3, _, (Nat.le_trans (Nat.le_refl _) ge3), F9, f13⟩
theorem d2_0 : decode jdk_42_method_3_code 0 = .ok (.aload_n 0, 1) := by decide +kernel
theorem d2_1 : decode jdk_42_method_3_code 1 = .ok (.aload_n 1, 1) := by decide +kernel
theorem d2_2 : decode jdk_42_method_3_code 2 = .ok (.iconst 0, 1) := by decide +kernel
theorem d2_3 : decode jdk_42_method_3_code 3 = .ok (.aload_n 1, 1) := by decide +kernel
theorem d2_4 : decode jdk_42_method_3_code 4 = .ok (.arraylength, 1) := by decide +kernel
theorem d2_5 : decode jdk_42_method_3_code 5 = .ok (.aconst_null, 1) := by decide +kernel
theorem w14 {a0 : Array Value} {Z : State} (hw : ∀ d ∈ tables_1, d.before a0 Z = true) : ((Jvm.Cond.code ({ cls := "java/lang/String", name := "<init>", desc := "([CIILjava/lang/Void;)V" } : Jvm.MethodName) jdk_42_method_149_code (6 : Nat) (Option.none : Option Jvm.ClassFile.FieldType))).before a0 Z = true := hw _ (List.mem_of_getElem? (i := 14) rfl)
theorem w6 {a0 : Array Value} {Z : State} (hw : ∀ d ∈ tables_1, d.before a0 Z = true) : ((Jvm.Cond.initialized "java/lang/String")).before a0 Z = true := hw _ (List.mem_of_getElem? (i := 6) rfl)
theorem pd13 : parseMethodDescriptor "([CIILjava/lang/Void;)V" = some ⟨[(.array .char), .int, .int, (.object "java/lang/Void")], none⟩ := by decide +kernel
theorem d2_6 : decode jdk_42_method_3_code 6 = .ok (.invokespecial 27, 3) := by decide +kernel
theorem w11 {a0 : Array Value} {Z : State} (hw : ∀ d ∈ tables_1, d.before a0 Z = true) : ((Jvm.Cond.methodLink "java/lang/String" (27 : Nat) ({ cls := "java/lang/String", name := "<init>", desc := "([CIILjava/lang/Void;)V" } : Jvm.MethodName))).before a0 Z = true := hw _ (List.mem_of_getElem? (i := 11) rfl)
theorem w12 {a0 : Array Value} {Z : State} (hw : ∀ d ∈ tables_1, d.before a0 Z = true) : ((Jvm.Cond.instanceMethod ({ cls := "java/lang/String", name := "<init>", desc := "([CIILjava/lang/Void;)V" } : Jvm.MethodName))).before a0 Z = true := hw _ (List.mem_of_getElem? (i := 12) rfl)
theorem d2_9 : decode jdk_42_method_3_code 9 = .ok (.return_, 1) := by decide +kernel
def rr_init1_1 : Room := { frames := 3, cells := 1, slots := 1, locals := 52 }
set_option maxRecDepth 65536 in
set_option maxHeartbeats 40000000 in
theorem rm_init1_1 (l : Launch) (Z : State) (a0 : Array Value) (hw : ∀ d ∈ tables_1, d.before a0 Z = true) (ws : List Jvm.Cond) (a1 b : Addr) (kC : ClassId) (zc : Int32) (c0 : Int32) (h0 : Heap) (n0 : Nat) (Z0 : n0 ≤ h0.size) (O0 : Old Z n0 h0) (E0 : Exa Z h0 a1 "java/lang/String") (g0 : n0 ≤ a1) (C0 : Fld Z h0 a1 "java/lang/String" "coder" "B" (.int (0 : Int32))) (V0 : Fld Z h0 a1 "java/lang/String" "value" "[B" .null) (VC : Arv Z h0 b kC .char (1 : Int32) [(.int c0)] (.int (0 : Int32))) (CS : Sta Z Z.heap "java/lang/String" "COMPACT_STRINGS" "Z" (.int zc)) (hz : ¬ zc = 0) (p0 : ¬ (255 : Int32) < c0) :
    Con l Z (⟨"java/lang/String", "<init>", "([C)V"⟩ : MethodName) jdk_42_method_3_code 2 none ws rr_init1_1 #[(.ref a1), (.ref b)] h0 (fun v h L => v = none ∧ Fr n0 L ∧ Keep h0 h [a1] ∧ Fld Z h a1 "java/lang/String" "coder" "B" (.int (0 : Int32)) ∧ ∃ (t : Addr) (k : ClassId), h0.size ≤ t ∧ Fld Z h a1 "java/lang/String" "value" "[B" (.ref t) ∧ Arv Z h t k .byte (1 : Int32) [(.int (c0.toInt8.toInt32))] (.int (0 : Int32))) := by
  refine Con.enter (plainFor_of_name pn2) ?_
  intro p e s m below meth c s₁ X0 hx hZ hby hml hret hlk hown hnm e0
  have N0 := Fr.nil n0
  refine Go.cast (g' := (mkF m 0 #[.val (.ref a1), .val (.ref b)] [])) (by first | rfl | (simp [entryFrame, mkF, argsToLocals, Value.category]; done)) ?_
  refine Go.st (T' := s₁) (g' := (mkF m 1 #[.val (.ref a1), .val (.ref b)] [(.ref a1)])) (fun _ zk => XS.aloadN X0.here hx rfl (hb hby d2_0) rfl rfl zk) ?_
  refine Go.st (T' := s₁) (g' := (mkF m 2 #[.val (.ref a1), .val (.ref b)] [(.ref b), (.ref a1)])) (fun _ zk => XS.aloadN X0.here hx rfl (hb hby d2_1) rfl rfl zk) ?_
  refine Go.st (T' := s₁) (g' := (mkF m 3 #[.val (.ref a1), .val (.ref b)] [(.int (0 : Int32)), (.ref b), (.ref a1)])) (fun _ zk => XS.iconst X0.here hx rfl (hb hby d2_2) zk) ?_
  refine Go.st (T' := s₁) (g' := (mkF m 4 #[.val (.ref a1), .val (.ref b)] [(.ref b), (.int (0 : Int32)), (.ref b), (.ref a1)])) (fun _ zk => XS.aloadN X0.here hx rfl (hb hby d2_3) rfl rfl zk) ?_
  refine Go.st (T' := s₁) (g' := (mkF m 5 #[.val (.ref a1), .val (.ref b)] [(.int (1 : Int32)), (.int (0 : Int32)), (.ref b), (.ref a1)])) (fun _ zk => lenV X0 hx hZ e0 VC (g := (mkF m 4 #[.val (.ref a1), .val (.ref b)] [(.ref b), (.int (0 : Int32)), (.ref b), (.ref a1)])) rfl (rest := [(.int (0 : Int32)), (.ref b), (.ref a1)]) rfl (hb hby d2_4) zk) ?_
  refine Go.st (T' := s₁) (g' := (mkF m 6 #[.val (.ref a1), .val (.ref b)] [.null, (.int (1 : Int32)), (.int (0 : Int32)), (.ref b), (.ref a1)])) (fun _ zk => XS.aconstNull X0.here hx rfl (hb hby d2_5) zk) ?_
  refine Go.callSp (y := (⟨"java/lang/String", "<init>", "([CIILjava/lang/Void;)V"⟩ : MethodName)) (a := a1) X0 hx hZ hown e0 rfl (w11 hw) (w12 hw) (w6 hw) (w14 hw) (by decide) (argsL := [(.ref b), (.int (0 : Int32)), (.int (1 : Int32)), .null]) (rest := []) (W := 0) (rm_init4_1 l Z a0 hw [] a1 b kC zc c0 h0 n0 Z0 O0 E0 g0 C0 V0 VC CS hz p0) rfl (lenOf pd13 rfl) rfl (by rw [hml]; rfl) rfl (by show 2 * 0 + _ ≤ _; exact Nat.le_of_eq rfl) (by decide) (by decide) (by decide) (by decide) (hb hby d2_6) ?_
  intro v1 T1 h1 L1 X1 e1 q1
  obtain ⟨hv1, Nf1, K1, C1, t1, k1, ge1, F1, V1⟩ := q1
  subst hv1
  have N1 := Fr.app N0 Nf1
  show Go p.tables e below _ T1 (mkF m 9 #[.val (.ref a1), .val (.ref b)] [])
  refine Go.retV X1 hx hlk hret (hb hby d2_9) (by decide) (by decide) e1 ?_
  exact ⟨rfl, N1, ((Keep.refl h0 [a1]).trans K1 (allS (P := fun x => x ∈ [a1] ∨ h0.size ≤ x) (Or.inl (List.mem_of_getElem? (i := 0) rfl)) all0)), C1, t1, _, (Nat.le_trans (Nat.le_refl _) ge1), F1, V1⟩
def rr_cmp5_2 : Room := { frames := 0, cells := 0, slots := 0, locals := 0 }
set_option maxRecDepth 65536 in
set_option maxHeartbeats 40000000 in
theorem rm_cmp5_2 (l : Launch) (Z : State) (a0 : Array Value) (hw : ∀ d ∈ tables_1, d.before a0 Z = true) (ws : List Jvm.Cond) (b d : Addr) (kC kB : ClassId) (c0 c1 : Int32) (h0 : Heap) (n0 : Nat) (Z0 : n0 ≤ h0.size) (VC : Arv Z h0 b kC .char (2 : Int32) [(.int c0), (.int c1)] (.int (0 : Int32))) (VB : Arv Z h0 d kB .byte (2 : Int32) [(.int (0 : Int32)), (.int (0 : Int32))] (.int (0 : Int32))) (hbd : b ≠ d) (gd : n0 ≤ d) (p0 : ¬ (255 : Int32) < c0) (p1 : ¬ (255 : Int32) < c1) :
    Con l Z (⟨"java/lang/StringUTF16", "compress", "([CI[BII)I"⟩ : MethodName) jdk_52_method_21_code 7 (some .int) ws rr_cmp5_2 #[(.ref b), (.int (0 : Int32)), (.ref d), (.int (0 : Int32)), (.int (2 : Int32))] h0 (fun v h L => v = some (.int (2 : Int32)) ∧ Fr n0 L ∧ Keep h0 h [d] ∧ Arv Z h d kB .byte (2 : Int32) [(.int (c0.toInt8.toInt32)), (.int (c1.toInt8.toInt32))] (.int (0 : Int32))) := by
  refine Con.enter (plainFor_of_name pn9) ?_
  intro p e s m below meth c s₁ X0 hx hZ hby hml hret hlk hown hnm e0
  have N0 := Fr.nil n0
  refine Go.cast (g' := (mkF m 0 #[.val (.ref b), .val (.int (0 : Int32)), .val (.ref d), .val (.int (0 : Int32)), .val (.int (2 : Int32)), .unset, .unset] [])) (by first | rfl | (simp [entryFrame, mkF, argsToLocals, Value.category]; done)) ?_
  refine Go.st (T' := s₁) (g' := (mkF m 1 #[.val (.ref b), .val (.int (0 : Int32)), .val (.ref d), .val (.int (0 : Int32)), .val (.int (2 : Int32)), .unset, .unset] [(.int (0 : Int32))])) (fun _ zk => XS.iconst X0.here hx rfl (hb hby d10_0) zk) ?_
  refine Go.st (T' := s₁) (g' := (mkF m 3 #[.val (.ref b), .val (.int (0 : Int32)), .val (.ref d), .val (.int (0 : Int32)), .val (.int (2 : Int32)), .val (.int (0 : Int32)), .unset] [])) (fun _ zk => XS.istore X0.here hx rfl (hb hby d10_1) rfl (l' := #[.val (.ref b), .val (.int (0 : Int32)), .val (.ref d), .val (.int (0 : Int32)), .val (.int (2 : Int32)), .val (.int (0 : Int32)), .unset]) rfl zk) ?_
  refine Go.st (T' := s₁) (g' := (mkF m 5 #[.val (.ref b), .val (.int (0 : Int32)), .val (.ref d), .val (.int (0 : Int32)), .val (.int (2 : Int32)), .val (.int (0 : Int32)), .unset] [(.int (0 : Int32))])) (fun _ zk => XS.iload X0.here hx rfl (hb hby d10_3) rfl zk) ?_
  refine Go.st (T' := s₁) (g' := (mkF m 7 #[.val (.ref b), .val (.int (0 : Int32)), .val (.ref d), .val (.int (0 : Int32)), .val (.int (2 : Int32)), .val (.int (0 : Int32)), .unset] [(.int (2 : Int32)), (.int (0 : Int32))])) (fun _ zk => XS.iload X0.here hx rfl (hb hby d10_5) rfl zk) ?_
  refine Go.st (T' := s₁) (g' := (mkF m 10 #[.val (.ref b), .val (.int (0 : Int32)), .val (.ref d), .val (.int (0 : Int32)), .val (.int (2 : Int32)), .val (.int (0 : Int32)), .unset] [])) (fun _ zk => XS.icmpNo X0.here hx rfl (hb hby d10_7) rfl (tlt ((by decide) : (0 : Int32) < (2 : Int32))).2.1 zk) ?_
  refine Go.st (T' := s₁) (g' := (mkF m 11 #[.val (.ref b), .val (.int (0 : Int32)), .val (.ref d), .val (.int (0 : Int32)), .val (.int (2 : Int32)), .val (.int (0 : Int32)), .unset] [(.ref b)])) (fun _ zk => XS.aloadN X0.here hx rfl (hb hby d10_10) rfl rfl zk) ?_
  refine Go.st (T' := s₁) (g' := (mkF m 12 #[.val (.ref b), .val (.int (0 : Int32)), .val (.ref d), .val (.int (0 : Int32)), .val (.int (2 : Int32)), .val (.int (0 : Int32)), .unset] [(.int (0 : Int32)), (.ref b)])) (fun _ zk => XS.iloadN X0.here hx rfl (hb hby d10_11) rfl zk) ?_
  refine Go.st (T' := s₁) (g' := (mkF m 13 #[.val (.ref b), .val (.int (0 : Int32)), .val (.ref d), .val (.int (0 : Int32)), .val (.int (2 : Int32)), .val (.int (0 : Int32)), .unset] [(.int c0)])) (fun _ zk => ldCV X0 hx hZ e0 VC (j := (0 : Int32)) ⟨by decide, by decide⟩ (v := (.int c0)) rfl (g := (mkF m 12 #[.val (.ref b), .val (.int (0 : Int32)), .val (.ref d), .val (.int (0 : Int32)), .val (.int (2 : Int32)), .val (.int (0 : Int32)), .unset] [(.int (0 : Int32)), (.ref b)])) rfl (rest := []) rfl (hb hby d10_12) zk) ?_
  refine Go.st (T' := s₁) (g' := (mkF m 15 #[.val (.ref b), .val (.int (0 : Int32)), .val (.ref d), .val (.int (0 : Int32)), .val (.int (2 : Int32)), .val (.int (0 : Int32)), .val (.int c0)] [])) (fun _ zk => XS.istore X0.here hx rfl (hb hby d10_13) rfl (l' := #[.val (.ref b), .val (.int (0 : Int32)), .val (.ref d), .val (.int (0 : Int32)), .val (.int (2 : Int32)), .val (.int (0 : Int32)), .val (.int c0)]) rfl zk) ?_
  refine Go.st (T' := s₁) (g' := (mkF m 17 #[.val (.ref b), .val (.int (0 : Int32)), .val (.ref d), .val (.int (0 : Int32)), .val (.int (2 : Int32)), .val (.int (0 : Int32)), .val (.int c0)] [(.int c0)])) (fun _ zk => XS.iload X0.here hx rfl (hb hby d10_15) rfl zk) ?_
  refine Go.st (T' := s₁) (g' := (mkF m 20 #[.val (.ref b), .val (.int (0 : Int32)), .val (.ref d), .val (.int (0 : Int32)), .val (.int (2 : Int32)), .val (.int (0 : Int32)), .val (.int c0)] [(.int (255 : Int32)), (.int c0)])) (fun _ zk => XS.sipush X0.here hx rfl (hb hby d10_17) zk) ?_
  refine Go.st (T' := s₁) (g' := (mkF m 26 #[.val (.ref b), .val (.int (0 : Int32)), .val (.ref d), .val (.int (0 : Int32)), .val (.int (2 : Int32)), .val (.int (0 : Int32)), .val (.int c0)] [])) (fun _ zk => XS.icmpYes X0.here hx rfl (pc0 := 20) (pc' := 26) rfl (hb hby d10_20) rfl (flt (p0 : ¬ ((255 : Int32) < c0))).2.2.2 (by decide) (by decide) zk) ?_
  refine Go.st (T' := s₁) (g' := (mkF m 27 #[.val (.ref b), .val (.int (0 : Int32)), .val (.ref d), .val (.int (0 : Int32)), .val (.int (2 : Int32)), .val (.int (0 : Int32)), .val (.int c0)] [(.ref d)])) (fun _ zk => XS.aloadN X0.here hx rfl (hb hby d10_26) rfl rfl zk) ?_
  refine Go.st (T' := s₁) (g' := (mkF m 28 #[.val (.ref b), .val (.int (0 : Int32)), .val (.ref d), .val (.int (0 : Int32)), .val (.int (2 : Int32)), .val (.int (0 : Int32)), .val (.int c0)] [(.int (0 : Int32)), (.ref d)])) (fun _ zk => XS.iloadN X0.here hx rfl (hb hby d10_27) rfl zk) ?_
  refine Go.st (T' := s₁) (g' := (mkF m 30 #[.val (.ref b), .val (.int (0 : Int32)), .val (.ref d), .val (.int (0 : Int32)), .val (.int (2 : Int32)), .val (.int (0 : Int32)), .val (.int c0)] [(.int c0), (.int (0 : Int32)), (.ref d)])) (fun _ zk => XS.iload X0.here hx rfl (hb hby d10_28) rfl zk) ?_
  refine Go.st (T' := s₁) (g' := (mkF m 31 #[.val (.ref b), .val (.int (0 : Int32)), .val (.ref d), .val (.int (0 : Int32)), .val (.int (2 : Int32)), .val (.int (0 : Int32)), .val (.int c0)] [(.int (c0.toInt8.toInt32)), (.int (0 : Int32)), (.ref d)])) (fun _ zk => XS.i2b X0.here hx rfl (hb hby d10_30) rfl zk) ?_
  obtain ⟨T1, h1, X1, e1, W1, V1, st1⟩ := stBV X0 hx hZ e0 VB (j := (0 : Int32)) (i := 0) (by decide) rfl (Nat.le_of_ble_eq_true rfl) (g := (mkF m 31 #[.val (.ref b), .val (.int (0 : Int32)), .val (.ref d), .val (.int (0 : Int32)), .val (.int (2 : Int32)), .val (.int (0 : Int32)), .val (.int c0)] [(.int (c0.toInt8.toInt32)), (.int (0 : Int32)), (.ref d)])) rfl rfl (hb hby d10_31)
  rw [nar_b] at V1
  have V1' : Arv Z h1 d kB .byte (2 : Int32) [(.int (c0.toInt8.toInt32)), (.int (0 : Int32))] (.int (0 : Int32)) := V1
  have N1 := Fr.snoc X1 N0 gd
  refine Go.st (T' := T1) (g' := (mkF m 32 #[.val (.ref b), .val (.int (0 : Int32)), .val (.ref d), .val (.int (0 : Int32)), .val (.int (2 : Int32)), .val (.int (0 : Int32)), .val (.int c0)] [])) (fun _ zk => st1 _ zk) ?_
  refine Go.st (T' := T1) (g' := (mkF m 35 #[.val (.ref b), .val (.int ((0 : Int32) + (1 : Int32))), .val (.ref d), .val (.int (0 : Int32)), .val (.int (2 : Int32)), .val (.int (0 : Int32)), .val (.int c0)] [])) (fun _ zk => XS.iinc X1.here hx rfl (hb hby d10_32) rfl (l' := #[.val (.ref b), .val (.int ((0 : Int32) + (1 : Int32))), .val (.ref d), .val (.int (0 : Int32)), .val (.int (2 : Int32)), .val (.int (0 : Int32)), .val (.int c0)]) rfl zk) ?_
  rw [show ((0 : Int32) + (1 : Int32)) = (1 : Int32) from by decide]
  refine Go.st (T' := T1) (g' := (mkF m 38 #[.val (.ref b), .val (.int (1 : Int32)), .val (.ref d), .val (.int ((0 : Int32) + (1 : Int32))), .val (.int (2 : Int32)), .val (.int (0 : Int32)), .val (.int c0)] [])) (fun _ zk => XS.iinc X1.here hx rfl (hb hby d10_35) rfl (l' := #[.val (.ref b), .val (.int (1 : Int32)), .val (.ref d), .val (.int ((0 : Int32) + (1 : Int32))), .val (.int (2 : Int32)), .val (.int (0 : Int32)), .val (.int c0)]) rfl zk) ?_
  rw [show ((0 : Int32) + (1 : Int32)) = (1 : Int32) from by decide]
  refine Go.st (T' := T1) (g' := (mkF m 41 #[.val (.ref b), .val (.int (1 : Int32)), .val (.ref d), .val (.int (1 : Int32)), .val (.int (2 : Int32)), .val (.int ((0 : Int32) + (1 : Int32))), .val (.int c0)] [])) (fun _ zk => XS.iinc X1.here hx rfl (hb hby d10_38) rfl (l' := #[.val (.ref b), .val (.int (1 : Int32)), .val (.ref d), .val (.int (1 : Int32)), .val (.int (2 : Int32)), .val (.int ((0 : Int32) + (1 : Int32))), .val (.int c0)]) rfl zk) ?_
  rw [show ((0 : Int32) + (1 : Int32)) = (1 : Int32) from by decide]
  refine Go.st (T' := T1) (g' := (mkF m 3 #[.val (.ref b), .val (.int (1 : Int32)), .val (.ref d), .val (.int (1 : Int32)), .val (.int (2 : Int32)), .val (.int (1 : Int32)), .val (.int c0)] [])) (fun _ zk => XS.goto X1.here hx rfl (pc0 := 41) (pc' := 3) rfl (hb hby d10_41) (by decide) (by decide) zk) ?_
  refine Go.st (T' := T1) (g' := (mkF m 5 #[.val (.ref b), .val (.int (1 : Int32)), .val (.ref d), .val (.int (1 : Int32)), .val (.int (2 : Int32)), .val (.int (1 : Int32)), .val (.int c0)] [(.int (1 : Int32))])) (fun _ zk => XS.iload X1.here hx rfl (hb hby d10_3) rfl zk) ?_
  refine Go.st (T' := T1) (g' := (mkF m 7 #[.val (.ref b), .val (.int (1 : Int32)), .val (.ref d), .val (.int (1 : Int32)), .val (.int (2 : Int32)), .val (.int (1 : Int32)), .val (.int c0)] [(.int (2 : Int32)), (.int (1 : Int32))])) (fun _ zk => XS.iload X1.here hx rfl (hb hby d10_5) rfl zk) ?_
  refine Go.st (T' := T1) (g' := (mkF m 10 #[.val (.ref b), .val (.int (1 : Int32)), .val (.ref d), .val (.int (1 : Int32)), .val (.int (2 : Int32)), .val (.int (1 : Int32)), .val (.int c0)] [])) (fun _ zk => XS.icmpNo X1.here hx rfl (hb hby d10_7) rfl (tlt ((by decide) : (1 : Int32) < (2 : Int32))).2.1 zk) ?_
  refine Go.st (T' := T1) (g' := (mkF m 11 #[.val (.ref b), .val (.int (1 : Int32)), .val (.ref d), .val (.int (1 : Int32)), .val (.int (2 : Int32)), .val (.int (1 : Int32)), .val (.int c0)] [(.ref b)])) (fun _ zk => XS.aloadN X1.here hx rfl (hb hby d10_10) rfl rfl zk) ?_
  refine Go.st (T' := T1) (g' := (mkF m 12 #[.val (.ref b), .val (.int (1 : Int32)), .val (.ref d), .val (.int (1 : Int32)), .val (.int (2 : Int32)), .val (.int (1 : Int32)), .val (.int c0)] [(.int (1 : Int32)), (.ref b)])) (fun _ zk => XS.iloadN X1.here hx rfl (hb hby d10_11) rfl zk) ?_
  have f2 := (VC.other W1 hbd)
  refine Go.st (T' := T1) (g' := (mkF m 13 #[.val (.ref b), .val (.int (1 : Int32)), .val (.ref d), .val (.int (1 : Int32)), .val (.int (2 : Int32)), .val (.int (1 : Int32)), .val (.int c0)] [(.int c1)])) (fun _ zk => ldCV X1 hx hZ e1 f2 (j := (1 : Int32)) ⟨by decide, by decide⟩ (v := (.int c1)) rfl (g := (mkF m 12 #[.val (.ref b), .val (.int (1 : Int32)), .val (.ref d), .val (.int (1 : Int32)), .val (.int (2 : Int32)), .val (.int (1 : Int32)), .val (.int c0)] [(.int (1 : Int32)), (.ref b)])) rfl (rest := []) rfl (hb hby d10_12) zk) ?_
  refine Go.st (T' := T1) (g' := (mkF m 15 #[.val (.ref b), .val (.int (1 : Int32)), .val (.ref d), .val (.int (1 : Int32)), .val (.int (2 : Int32)), .val (.int (1 : Int32)), .val (.int c1)] [])) (fun _ zk => XS.istore X1.here hx rfl (hb hby d10_13) rfl (l' := #[.val (.ref b), .val (.int (1 : Int32)), .val (.ref d), .val (.int (1 : Int32)), .val (.int (2 : Int32)), .val (.int (1 : Int32)), .val (.int c1)]) rfl zk) ?_
  refine Go.st (T' := T1) (g' := (mkF m 17 #[.val (.ref b), .val (.int (1 : Int32)), .val (.ref d), .val (.int (1 : Int32)), .val (.int (2 : Int32)), .val (.int (1 : Int32)), .val (.int c1)] [(.int c1)])) (fun _ zk => XS.iload X1.here hx rfl (hb hby d10_15) rfl zk) ?_
  refine Go.st (T' := T1) (g' := (mkF m 20 #[.val (.ref b), .val (.int (1 : Int32)), .val (.ref d), .val (.int (1 : Int32)), .val (.int (2 : Int32)), .val (.int (1 : Int32)), .val (.int c1)] [(.int (255 : Int32)), (.int c1)])) (fun _ zk => XS.sipush X1.here hx rfl (hb hby d10_17) zk) ?_
  refine Go.st (T' := T1) (g' := (mkF m 26 #[.val (.ref b), .val (.int (1 : Int32)), .val (.ref d), .val (.int (1 : Int32)), .val (.int (2 : Int32)), .val (.int (1 : Int32)), .val (.int c1)] [])) (fun _ zk => XS.icmpYes X1.here hx rfl (pc0 := 20) (pc' := 26) rfl (hb hby d10_20) rfl (flt (p1 : ¬ ((255 : Int32) < c1))).2.2.2 (by decide) (by decide) zk) ?_
  refine Go.st (T' := T1) (g' := (mkF m 27 #[.val (.ref b), .val (.int (1 : Int32)), .val (.ref d), .val (.int (1 : Int32)), .val (.int (2 : Int32)), .val (.int (1 : Int32)), .val (.int c1)] [(.ref d)])) (fun _ zk => XS.aloadN X1.here hx rfl (hb hby d10_26) rfl rfl zk) ?_
  refine Go.st (T' := T1) (g' := (mkF m 28 #[.val (.ref b), .val (.int (1 : Int32)), .val (.ref d), .val (.int (1 : Int32)), .val (.int (2 : Int32)), .val (.int (1 : Int32)), .val (.int c1)] [(.int (1 : Int32)), (.ref d)])) (fun _ zk => XS.iloadN X1.here hx rfl (hb hby d10_27) rfl zk) ?_
  refine Go.st (T' := T1) (g' := (mkF m 30 #[.val (.ref b), .val (.int (1 : Int32)), .val (.ref d), .val (.int (1 : Int32)), .val (.int (2 : Int32)), .val (.int (1 : Int32)), .val (.int c1)] [(.int c1), (.int (1 : Int32)), (.ref d)])) (fun _ zk => XS.iload X1.here hx rfl (hb hby d10_28) rfl zk) ?_
  refine Go.st (T' := T1) (g' := (mkF m 31 #[.val (.ref b), .val (.int (1 : Int32)), .val (.ref d), .val (.int (1 : Int32)), .val (.int (2 : Int32)), .val (.int (1 : Int32)), .val (.int c1)] [(.int (c1.toInt8.toInt32)), (.int (1 : Int32)), (.ref d)])) (fun _ zk => XS.i2b X1.here hx rfl (hb hby d10_30) rfl zk) ?_
  obtain ⟨T3, h3, X3, e3, W3, V3, st3⟩ := stBV X1 hx hZ e1 V1' (j := (1 : Int32)) (i := 1) (by decide) rfl (Nat.le_of_ble_eq_true rfl) (g := (mkF m 31 #[.val (.ref b), .val (.int (1 : Int32)), .val (.ref d), .val (.int (1 : Int32)), .val (.int (2 : Int32)), .val (.int (1 : Int32)), .val (.int c1)] [(.int (c1.toInt8.toInt32)), (.int (1 : Int32)), (.ref d)])) rfl rfl (hb hby d10_31)
  rw [nar_b] at V3
  have V3' : Arv Z h3 d kB .byte (2 : Int32) [(.int (c0.toInt8.toInt32)), (.int (c1.toInt8.toInt32))] (.int (0 : Int32)) := V3
  have N3 := Fr.snoc X3 N1 gd
  refine Go.st (T' := T3) (g' := (mkF m 32 #[.val (.ref b), .val (.int (1 : Int32)), .val (.ref d), .val (.int (1 : Int32)), .val (.int (2 : Int32)), .val (.int (1 : Int32)), .val (.int c1)] [])) (fun _ zk => st3 _ zk) ?_
  refine Go.st (T' := T3) (g' := (mkF m 35 #[.val (.ref b), .val (.int ((1 : Int32) + (1 : Int32))), .val (.ref d), .val (.int (1 : Int32)), .val (.int (2 : Int32)), .val (.int (1 : Int32)), .val (.int c1)] [])) (fun _ zk => XS.iinc X3.here hx rfl (hb hby d10_32) rfl (l' := #[.val (.ref b), .val (.int ((1 : Int32) + (1 : Int32))), .val (.ref d), .val (.int (1 : Int32)), .val (.int (2 : Int32)), .val (.int (1 : Int32)), .val (.int c1)]) rfl zk) ?_
  rw [show ((1 : Int32) + (1 : Int32)) = (2 : Int32) from by decide]
  refine Go.st (T' := T3) (g' := (mkF m 38 #[.val (.ref b), .val (.int (2 : Int32)), .val (.ref d), .val (.int ((1 : Int32) + (1 : Int32))), .val (.int (2 : Int32)), .val (.int (1 : Int32)), .val (.int c1)] [])) (fun _ zk => XS.iinc X3.here hx rfl (hb hby d10_35) rfl (l' := #[.val (.ref b), .val (.int (2 : Int32)), .val (.ref d), .val (.int ((1 : Int32) + (1 : Int32))), .val (.int (2 : Int32)), .val (.int (1 : Int32)), .val (.int c1)]) rfl zk) ?_
  rw [show ((1 : Int32) + (1 : Int32)) = (2 : Int32) from by decide]
  refine Go.st (T' := T3) (g' := (mkF m 41 #[.val (.ref b), .val (.int (2 : Int32)), .val (.ref d), .val (.int (2 : Int32)), .val (.int (2 : Int32)), .val (.int ((1 : Int32) + (1 : Int32))), .val (.int c1)] [])) (fun _ zk => XS.iinc X3.here hx rfl (hb hby d10_38) rfl (l' := #[.val (.ref b), .val (.int (2 : Int32)), .val (.ref d), .val (.int (2 : Int32)), .val (.int (2 : Int32)), .val (.int ((1 : Int32) + (1 : Int32))), .val (.int c1)]) rfl zk) ?_
  rw [show ((1 : Int32) + (1 : Int32)) = (2 : Int32) from by decide]
  refine Go.st (T' := T3) (g' := (mkF m 3 #[.val (.ref b), .val (.int (2 : Int32)), .val (.ref d), .val (.int (2 : Int32)), .val (.int (2 : Int32)), .val (.int (2 : Int32)), .val (.int c1)] [])) (fun _ zk => XS.goto X3.here hx rfl (pc0 := 41) (pc' := 3) rfl (hb hby d10_41) (by decide) (by decide) zk) ?_
  refine Go.st (T' := T3) (g' := (mkF m 5 #[.val (.ref b), .val (.int (2 : Int32)), .val (.ref d), .val (.int (2 : Int32)), .val (.int (2 : Int32)), .val (.int (2 : Int32)), .val (.int c1)] [(.int (2 : Int32))])) (fun _ zk => XS.iload X3.here hx rfl (hb hby d10_3) rfl zk) ?_
  refine Go.st (T' := T3) (g' := (mkF m 7 #[.val (.ref b), .val (.int (2 : Int32)), .val (.ref d), .val (.int (2 : Int32)), .val (.int (2 : Int32)), .val (.int (2 : Int32)), .val (.int c1)] [(.int (2 : Int32)), (.int (2 : Int32))])) (fun _ zk => XS.iload X3.here hx rfl (hb hby d10_5) rfl zk) ?_
  refine Go.st (T' := T3) (g' := (mkF m 44 #[.val (.ref b), .val (.int (2 : Int32)), .val (.ref d), .val (.int (2 : Int32)), .val (.int (2 : Int32)), .val (.int (2 : Int32)), .val (.int c1)] [])) (fun _ zk => XS.icmpYes X3.here hx rfl (pc0 := 7) (pc' := 44) rfl (hb hby d10_7) rfl (flt ((by decide) : ¬ ((2 : Int32) < (2 : Int32)))).2.1 (by decide) (by decide) zk) ?_
  refine Go.st (T' := T3) (g' := (mkF m 46 #[.val (.ref b), .val (.int (2 : Int32)), .val (.ref d), .val (.int (2 : Int32)), .val (.int (2 : Int32)), .val (.int (2 : Int32)), .val (.int c1)] [(.int (2 : Int32))])) (fun _ zk => XS.iload X3.here hx rfl (hb hby d10_44) rfl zk) ?_
  refine Go.retN X3 hx hlk hret rfl (by simp) (hb hby d10_46) (by decide) (by decide) e3 ?_
  exact ⟨rfl, N3, (((Keep.refl h0 [d]).wr W1 (Or.inl (List.mem_of_getElem? (i := 0) rfl))).wr W3 (Or.inl (List.mem_of_getElem? (i := 0) rfl))), V3'⟩
def rr_cmp3_2 : Room := { frames := 1, cells := 1, slots := 2, locals := 18 }
set_option maxRecDepth 65536 in
set_option maxHeartbeats 40000000 in
theorem rm_cmp3_2 (l : Launch) (Z : State) (a0 : Array Value) (hw : ∀ d ∈ tables_1, d.before a0 Z = true) (ws : List Jvm.Cond) (b : Addr) (kC : ClassId) (c0 c1 : Int32) (h0 : Heap) (n0 : Nat) (Z0 : n0 ≤ h0.size) (VC : Arv Z h0 b kC .char (2 : Int32) [(.int c0), (.int c1)] (.int (0 : Int32))) (p0 : ¬ (255 : Int32) < c0) (p1 : ¬ (255 : Int32) < c1) :
    Con l Z (⟨"java/lang/StringUTF16", "compress", "([CII)[B"⟩ : MethodName) jdk_52_method_16_code 6 (some (.array .byte)) ws rr_cmp3_2 #[(.ref b), (.int (0 : Int32)), (.int (2 : Int32))] h0 (fun v h L => ∃ (t : Addr) (k : ClassId), v = some (.ref t) ∧ Fr n0 L ∧ Ext h0 h ∧ h0.size ≤ t ∧ Arv Z h t k .byte (2 : Int32) [(.int (c0.toInt8.toInt32)), (.int (c1.toInt8.toInt32))] (.int (0 : Int32))) := by
  refine Con.enter (plainFor_of_name pn9) ?_
  intro p e s m below meth c s₁ X0 hx hZ hby hml hret hlk hown hnm e0
  have N0 := Fr.nil n0
  refine Go.cast (g' := (mkF m 0 #[.val (.ref b), .val (.int (0 : Int32)), .val (.int (2 : Int32)), .unset, .unset, .unset] [])) (by first | rfl | (simp [entryFrame, mkF, argsToLocals, Value.category]; done)) ?_
  refine Go.st (T' := s₁) (g' := (mkF m 1 #[.val (.ref b), .val (.int (0 : Int32)), .val (.int (2 : Int32)), .unset, .unset, .unset] [(.int (2 : Int32))])) (fun _ zk => XS.iloadN X0.here hx rfl (hb hby d9_0) rfl zk) ?_
  obtain ⟨T1, h1, k1, X1, e1, E1, A1, st1⟩ := newP (aty := .byte) X0 hx hZ (w19 hw) e0 (g := (mkF m 1 #[.val (.ref b), .val (.int (0 : Int32)), .val (.int (2 : Int32)), .unset, .unset, .unset] [(.int (2 : Int32))])) rfl (hb hby d9_1) rfl (by decide) (cap := 2) (by decide) (by decide) (by decide) (by decide)
  obtain ⟨b1, g1⟩ : ∃ z, z = h0.size := ⟨_, rfl⟩
  rw [← g1] at A1 st1
  have V1 : Arv Z h1 b1 k1 .byte (2 : Int32) [(.int (0 : Int32)), (.int (0 : Int32))] (.int (0 : Int32)) := (Arv.new A1 (by decide)).pad (pad_rep [] (.int (0 : Int32)) 2)
  refine Go.st (T' := T1) (g' := (mkF m 3 #[.val (.ref b), .val (.int (0 : Int32)), .val (.int (2 : Int32)), .unset, .unset, .unset] [(.ref b1)])) (fun _ zk => st1 _ zk) ?_
  refine Go.st (T' := T1) (g' := (mkF m 4 #[.val (.ref b), .val (.int (0 : Int32)), .val (.int (2 : Int32)), .val (.ref b1), .unset, .unset] [])) (fun _ zk => XS.astoreN X1.here hx rfl (hb hby d9_3) rfl rfl (l' := #[.val (.ref b), .val (.int (0 : Int32)), .val (.int (2 : Int32)), .val (.ref b1), .unset, .unset]) rfl zk) ?_
  refine Go.st (T' := T1) (g' := (mkF m 5 #[.val (.ref b), .val (.int (0 : Int32)), .val (.int (2 : Int32)), .val (.ref b1), .unset, .unset] [(.ref b)])) (fun _ zk => XS.aloadN X1.here hx rfl (hb hby d9_4) rfl rfl zk) ?_
  refine Go.st (T' := T1) (g' := (mkF m 6 #[.val (.ref b), .val (.int (0 : Int32)), .val (.int (2 : Int32)), .val (.ref b1), .unset, .unset] [(.int (0 : Int32)), (.ref b)])) (fun _ zk => XS.iloadN X1.here hx rfl (hb hby d9_5) rfl zk) ?_
  refine Go.st (T' := T1) (g' := (mkF m 7 #[.val (.ref b), .val (.int (0 : Int32)), .val (.int (2 : Int32)), .val (.ref b1), .unset, .unset] [(.ref b1), (.int (0 : Int32)), (.ref b)])) (fun _ zk => XS.aloadN X1.here hx rfl (hb hby d9_6) rfl rfl zk) ?_
  refine Go.st (T' := T1) (g' := (mkF m 8 #[.val (.ref b), .val (.int (0 : Int32)), .val (.int (2 : Int32)), .val (.ref b1), .unset, .unset] [(.int (0 : Int32)), (.ref b1), (.int (0 : Int32)), (.ref b)])) (fun _ zk => XS.iconst X1.here hx rfl (hb hby d9_7) zk) ?_
  refine Go.st (T' := T1) (g' := (mkF m 9 #[.val (.ref b), .val (.int (0 : Int32)), .val (.int (2 : Int32)), .val (.ref b1), .unset, .unset] [(.int (2 : Int32)), (.int (0 : Int32)), (.ref b1), (.int (0 : Int32)), (.ref b)])) (fun _ zk => XS.iloadN X1.here hx rfl (hb hby d9_8) rfl zk) ?_
  have x2 : Ext h0 h1 := E1
  have f3 := VC.ext x2
  refine Go.callSt (y := (⟨"java/lang/StringUTF16", "compress", "([CI[BII)I"⟩ : MethodName)) X1 hx hZ hown e1 (w60 hw) (w61 hw) (w58 hw) (w62 hw) (by decide) (argsL := [(.ref b), (.int (0 : Int32)), (.ref b1), (.int (0 : Int32)), (.int (2 : Int32))]) (rest := []) (W := 0) (rm_cmp5_2 l Z a0 hw [] b b1 kC k1 c0 c1 h1 n0 (Nat.le_trans Z0 E1.1) f3 V1 (ne_lt VC.lt (Nat.le_refl _) (Nat.le_of_eq g1.symm)) (Nat.le_trans Z0 (Nat.le_trans (Nat.le_refl _) (Nat.le_of_eq g1.symm))) p0 p1) rfl (lenOf pd10 rfl) rfl (by rw [hml]; rfl) rfl (by show 2 * 0 + _ ≤ _; exact Nat.le_of_eq rfl) (by decide) (by decide) (by decide) (by decide) (hb hby d9_9) ?_
  intro v4 T4 h4 L4 X4 e4 q4
  obtain ⟨hv4, Nf4, K4, V4⟩ := q4
  subst hv4
  have N4 := Fr.app N0 Nf4
  show Go p.tables e below _ T4 (mkF m 12 #[.val (.ref b), .val (.int (0 : Int32)), .val (.int (2 : Int32)), .val (.ref b1), .unset, .unset] [(.int (2 : Int32))])
  refine Go.st (T' := T4) (g' := (mkF m 14 #[.val (.ref b), .val (.int (0 : Int32)), .val (.int (2 : Int32)), .val (.ref b1), .val (.int (2 : Int32)), .unset] [])) (fun _ zk => XS.istore X4.here hx rfl (hb hby d9_12) rfl (l' := #[.val (.ref b), .val (.int (0 : Int32)), .val (.int (2 : Int32)), .val (.ref b1), .val (.int (2 : Int32)), .unset]) rfl zk) ?_
  refine Go.st (T' := T4) (g' := (mkF m 16 #[.val (.ref b), .val (.int (0 : Int32)), .val (.int (2 : Int32)), .val (.ref b1), .val (.int (2 : Int32)), .unset] [(.int (2 : Int32))])) (fun _ zk => XS.iload X4.here hx rfl (hb hby d9_14) rfl zk) ?_
  refine Go.st (T' := T4) (g' := (mkF m 17 #[.val (.ref b), .val (.int (0 : Int32)), .val (.int (2 : Int32)), .val (.ref b1), .val (.int (2 : Int32)), .unset] [(.int (2 : Int32)), (.int (2 : Int32))])) (fun _ zk => XS.iloadN X4.here hx rfl (hb hby d9_16) rfl zk) ?_
  refine Go.st (T' := T4) (g' := (mkF m 57 #[.val (.ref b), .val (.int (0 : Int32)), .val (.int (2 : Int32)), .val (.ref b1), .val (.int (2 : Int32)), .unset] [])) (fun _ zk => XS.icmpYes X4.here hx rfl (pc0 := 17) (pc' := 57) rfl (hb hby d9_17) rfl (teq (rfl : (2 : Int32) = (2 : Int32))).1 (by decide) (by decide) zk) ?_
  refine Go.st (T' := T4) (g' := (mkF m 58 #[.val (.ref b), .val (.int (0 : Int32)), .val (.int (2 : Int32)), .val (.ref b1), .val (.int (2 : Int32)), .unset] [(.ref b1)])) (fun _ zk => XS.aloadN X4.here hx rfl (hb hby d9_57) rfl rfl zk) ?_
  have x5 : Ext h0 h4 := (x2.thenK K4 (allS (P := fun x => h0.size ≤ x) (Nat.le_of_eq g1.symm) all0))
  refine Go.retA X4 hx hlk hret rfl rfl (hb hby d9_58) (by decide) (by decide) e4 ?_
  exact ⟨_, _, rfl, N4, x5, (Nat.le_trans (Nat.le_refl _) (Nat.le_of_eq g1.symm)), V4⟩
def rr_codl_2 : Room := { frames := 0, cells := 0, slots := 0, locals := 0 }
set_option maxRecDepth 65536 in
set_option maxHeartbeats 40000000 in
theorem rm_codl_2 (l : Launch) (Z : State) (a0 : Array Value) (hw : ∀ d ∈ tables_1, d.before a0 Z = true) (ws : List Jvm.Cond) (t : Addr) (k : ClassId) (x0 x1 : Int32) (h0 : Heap) (n0 : Nat) (Z0 : n0 ≤ h0.size) (VB : Arv Z h0 t k .byte (2 : Int32) [(.int x0), (.int x1)] (.int (0 : Int32))) :
    Con l Z (⟨"java/lang/StringUTF16", "coderFromArrayLen", "([BI)B"⟩ : MethodName) jdk_52_method_15_code 2 (some .byte) ws rr_codl_2 #[(.ref t), (.int (2 : Int32))] h0 (fun v h L => v = some (.int 0) ∧ Fr n0 L ∧ h = h0) := by
  refine Con.enter (plainFor_of_name pn9) ?_
  intro p e s m below meth c s₁ X0 hx hZ hby hml hret hlk hown hnm e0
  have N0 := Fr.nil n0
  refine Go.cast (g' := (mkF m 0 #[.val (.ref t), .val (.int (2 : Int32))] [])) (by first | rfl | (simp [entryFrame, mkF, argsToLocals, Value.category]; done)) ?_
  refine Go.st (T' := s₁) (g' := (mkF m 1 #[.val (.ref t), .val (.int (2 : Int32))] [(.int (2 : Int32))])) (fun _ zk => XS.iloadN X0.here hx rfl (hb hby d11_0) rfl zk) ?_
  refine Go.st (T' := s₁) (g' := (mkF m 2 #[.val (.ref t), .val (.int (2 : Int32))] [(.ref t), (.int (2 : Int32))])) (fun _ zk => XS.aloadN X0.here hx rfl (hb hby d11_1) rfl rfl zk) ?_
  refine Go.st (T' := s₁) (g' := (mkF m 3 #[.val (.ref t), .val (.int (2 : Int32))] [(.int (2 : Int32)), (.int (2 : Int32))])) (fun _ zk => lenV X0 hx hZ e0 VB (g := (mkF m 2 #[.val (.ref t), .val (.int (2 : Int32))] [(.ref t), (.int (2 : Int32))])) rfl (rest := [(.int (2 : Int32))]) rfl (hb hby d11_2) zk) ?_
  refine Go.st (T' := s₁) (g' := (mkF m 4 #[.val (.ref t), .val (.int (2 : Int32))] [(.int ((2 : Int32) - (2 : Int32)))])) (fun _ zk => XS.isub X0.here hx rfl (hb hby d11_3) rfl zk) ?_
  rw [show ((2 : Int32) - (2 : Int32)) = (0 : Int32) from by decide]
  refine Go.st (T' := s₁) (g' := (mkF m 6 #[.val (.ref t), .val (.int (2 : Int32))] [(.int (31 : Int32)), (.int (0 : Int32))])) (fun _ zk => XS.bipush X0.here hx rfl (hb hby d11_4) zk) ?_
  refine Go.st (T' := s₁) (g' := (mkF m 7 #[.val (.ref t), .val (.int (2 : Int32))] [(.int (((0 : Int32).toUInt32 >>> ((31 : Int32) &&& 31).toUInt32).toInt32))])) (fun _ zk => XS.iushr X0.here hx rfl (hb hby d11_6) rfl zk) ?_
  rw [show (((0 : Int32).toUInt32 >>> ((31 : Int32) &&& 31).toUInt32).toInt32) = (0 : Int32) from by decide]
  refine Go.st (T' := s₁) (g' := (mkF m 8 #[.val (.ref t), .val (.int (2 : Int32))] [(.int ((0 : Int32).toInt8.toInt32))])) (fun _ zk => XS.i2b X0.here hx rfl (hb hby d11_7) rfl zk) ?_
  rw [show ((0 : Int32).toInt8.toInt32) = (0 : Int32) from by decide]
  refine Go.retN X0 hx hlk hret rfl (by simp) (hb hby d11_8) (by decide) (by decide) e0 ?_
  exact ⟨rfl, N0, rfl⟩
def rr_init4_2 : Room := { frames := 2, cells := 1, slots := 2, locals := 35 }
set_option maxRecDepth 65536 in
set_option maxHeartbeats 40000000 in
theorem rm_init4_2 (l : Launch) (Z : State) (a0 : Array Value) (hw : ∀ d ∈ tables_1, d.before a0 Z = true) (ws : List Jvm.Cond) (a1 b : Addr) (kC : ClassId) (zc : Int32) (c0 c1 : Int32) (h0 : Heap) (n0 : Nat) (Z0 : n0 ≤ h0.size) (O0 : Old Z n0 h0) (E0 : Exa Z h0 a1 "java/lang/String") (g0 : n0 ≤ a1) (C0 : Fld Z h0 a1 "java/lang/String" "coder" "B" (.int (0 : Int32))) (V0 : Fld Z h0 a1 "java/lang/String" "value" "[B" .null) (VC : Arv Z h0 b kC .char (2 : Int32) [(.int c0), (.int c1)] (.int (0 : Int32))) (CS : Sta Z Z.heap "java/lang/String" "COMPACT_STRINGS" "Z" (.int zc)) (hz : ¬ zc = 0) (p0 : ¬ (255 : Int32) < c0) (p1 : ¬ (255 : Int32) < c1) :
    Con l Z (⟨"java/lang/String", "<init>", "([CIILjava/lang/Void;)V"⟩ : MethodName) jdk_42_method_149_code 6 none ws rr_init4_2 #[(.ref a1), (.ref b), (.int (0 : Int32)), (.int (2 : Int32)), .null] h0 (fun v h L => v = none ∧ Fr n0 L ∧ Keep h0 h [a1] ∧ Fld Z h a1 "java/lang/String" "coder" "B" (.int (0 : Int32)) ∧ ∃ (t : Addr) (k : ClassId), h0.size ≤ t ∧ Fld Z h a1 "java/lang/String" "value" "[B" (.ref t) ∧ Arv Z h t k .byte (2 : Int32) [(.int (c0.toInt8.toInt32)), (.int (c1.toInt8.toInt32))] (.int (0 : Int32))) := by
  refine Con.enter (plainFor_of_name pn2) ?_
  intro p e s m below meth c s₁ X0 hx hZ hby hml hret hlk hown hnm e0
  have N0 := Fr.nil n0
  refine Go.cast (g' := (mkF m 0 #[.val (.ref a1), .val (.ref b), .val (.int (0 : Int32)), .val (.int (2 : Int32)), .val .null, .unset] [])) (by first | rfl | (simp [entryFrame, mkF, argsToLocals, Value.category]; done)) ?_
  refine Go.st (T' := s₁) (g' := (mkF m 1 #[.val (.ref a1), .val (.ref b), .val (.int (0 : Int32)), .val (.int (2 : Int32)), .val .null, .unset] [(.ref a1)])) (fun _ zk => XS.aloadN X0.here hx rfl (hb hby d3_0) rfl rfl zk) ?_
  obtain ⟨T1, X1, e1, st1⟩ := initO X0 hx hZ hown (w15 hw) (w16 hw) (w17 hw) e0 (g := (mkF m 1 #[.val (.ref a1), .val (.ref b), .val (.int (0 : Int32)), .val (.int (2 : Int32)), .val .null, .unset] [(.ref a1)])) rfl (by rw [hml]; rfl) rfl (hb hby d3_1) (by decide) (W := 0) (by show 2 * 0 + _ ≤ _; exact Nat.le_of_eq rfl) (by decide)
  refine Go.st (T' := T1) (g' := (mkF m 4 #[.val (.ref a1), .val (.ref b), .val (.int (0 : Int32)), .val (.int (2 : Int32)), .val .null, .unset] [])) (fun _ zk => st1 _ zk) ?_
  refine Go.st (T' := T1) (g' := (mkF m 5 #[.val (.ref a1), .val (.ref b), .val (.int (0 : Int32)), .val (.int (2 : Int32)), .val .null, .unset] [(.int (2 : Int32))])) (fun _ zk => XS.iloadN X1.here hx rfl (hb hby d3_4) rfl zk) ?_
  refine Go.st (T' := T1) (g' := (mkF m 27 #[.val (.ref a1), .val (.ref b), .val (.int (0 : Int32)), .val (.int (2 : Int32)), .val .null, .unset] [])) (fun _ zk => XS.ifYes X1.here hx rfl (pc0 := 5) (pc' := 27) rfl (hb hby d3_5) rfl ((if0 _ _).trans (feq ((by decide) : ¬ ((2 : Int32) = (0 : Int32)))).2) (by decide) (by decide) zk) ?_
  obtain ⟨T2, X2, e2, st2⟩ := getS2 X1 hx hZ hown (host := "") (Or.inl (w55 hw)) Via.refl e1 (CS.ext O0.2) (g := (mkF m 27 #[.val (.ref a1), .val (.ref b), .val (.int (0 : Int32)), .val (.int (2 : Int32)), .val .null, .unset] [])) rfl (hb hby d3_27)
  refine Go.st (T' := T2) (g' := (mkF m 30 #[.val (.ref a1), .val (.ref b), .val (.int (0 : Int32)), .val (.int (2 : Int32)), .val .null, .unset] [(.int zc)])) (fun _ zk => st2 _ zk) ?_
  refine Go.st (T' := T2) (g' := (mkF m 33 #[.val (.ref a1), .val (.ref b), .val (.int (0 : Int32)), .val (.int (2 : Int32)), .val .null, .unset] [])) (fun _ zk => XS.ifNo X2.here hx rfl (hb hby d3_30) rfl ((if0 _ _).trans (feq (hz : ¬ (zc = (0 : Int32)))).1) zk) ?_
  refine Go.st (T' := T2) (g' := (mkF m 34 #[.val (.ref a1), .val (.ref b), .val (.int (0 : Int32)), .val (.int (2 : Int32)), .val .null, .unset] [(.ref b)])) (fun _ zk => XS.aloadN X2.here hx rfl (hb hby d3_33) rfl rfl zk) ?_
  refine Go.st (T' := T2) (g' := (mkF m 35 #[.val (.ref a1), .val (.ref b), .val (.int (0 : Int32)), .val (.int (2 : Int32)), .val .null, .unset] [(.int (0 : Int32)), (.ref b)])) (fun _ zk => XS.iloadN X2.here hx rfl (hb hby d3_34) rfl zk) ?_
  refine Go.st (T' := T2) (g' := (mkF m 36 #[.val (.ref a1), .val (.ref b), .val (.int (0 : Int32)), .val (.int (2 : Int32)), .val .null, .unset] [(.int (2 : Int32)), (.int (0 : Int32)), (.ref b)])) (fun _ zk => XS.iloadN X2.here hx rfl (hb hby d3_35) rfl zk) ?_
  refine Go.callSt (y := (⟨"java/lang/StringUTF16", "compress", "([CII)[B"⟩ : MethodName)) X2 hx hZ hown e2 (w56 hw) (w57 hw) (w58 hw) (w59 hw) (by decide) (argsL := [(.ref b), (.int (0 : Int32)), (.int (2 : Int32))]) (rest := []) (W := 0) (rm_cmp3_2 l Z a0 hw [] b kC c0 c1 h0 n0 Z0 VC p0 p1) rfl (lenOf pd11 rfl) rfl (by rw [hml]; rfl) rfl (by show 2 * 0 + _ ≤ _; exact Nat.le_of_eq rfl) (by decide) (by decide) (by decide) (by decide) (hb hby d3_36) ?_
  intro v3 T3 h3 L3 X3 e3 q3
  obtain ⟨t3, k3, hv3, Nf3, E3, ge3, V3⟩ := q3
  subst hv3
  have N3 := Fr.app N0 Nf3
  show Go p.tables e below _ T3 (mkF m 39 #[.val (.ref a1), .val (.ref b), .val (.int (0 : Int32)), .val (.int (2 : Int32)), .val .null, .unset] [(.ref t3)])
  refine Go.st (T' := T3) (g' := (mkF m 41 #[.val (.ref a1), .val (.ref b), .val (.int (0 : Int32)), .val (.int (2 : Int32)), .val .null, .val (.ref t3)] [])) (fun _ zk => XS.astore X3.here hx rfl (hb hby d3_39) rfl rfl (l' := #[.val (.ref a1), .val (.ref b), .val (.int (0 : Int32)), .val (.int (2 : Int32)), .val .null, .val (.ref t3)]) rfl zk) ?_
  refine Go.st (T' := T3) (g' := (mkF m 42 #[.val (.ref a1), .val (.ref b), .val (.int (0 : Int32)), .val (.int (2 : Int32)), .val .null, .val (.ref t3)] [(.ref a1)])) (fun _ zk => XS.aloadN X3.here hx rfl (hb hby d3_41) rfl rfl zk) ?_
  refine Go.st (T' := T3) (g' := (mkF m 44 #[.val (.ref a1), .val (.ref b), .val (.int (0 : Int32)), .val (.int (2 : Int32)), .val .null, .val (.ref t3)] [(.ref t3), (.ref a1)])) (fun _ zk => XS.aload X3.here hx rfl (hb hby d3_42) rfl rfl zk) ?_
  refine Go.st (T' := T3) (g' := (mkF m 45 #[.val (.ref a1), .val (.ref b), .val (.int (0 : Int32)), .val (.int (2 : Int32)), .val .null, .val (.ref t3)] [(.int (2 : Int32)), (.ref t3), (.ref a1)])) (fun _ zk => XS.iloadN X3.here hx rfl (hb hby d3_44) rfl zk) ?_
  refine Go.callSt (y := (⟨"java/lang/StringUTF16", "coderFromArrayLen", "([BI)B"⟩ : MethodName)) X3 hx hZ hown e3 (w63 hw) (w64 hw) (w58 hw) (w65 hw) (by decide) (argsL := [(.ref t3), (.int (2 : Int32))]) (rest := [(.ref a1)]) (W := 1) (rm_codl_2 l Z a0 hw [] t3 k3 (c0.toInt8.toInt32) (c1.toInt8.toInt32) h3 n0 (Nat.le_trans Z0 E3.1) V3) rfl (lenOf pd12 rfl) rfl (by rw [hml]; rfl) rfl (by show 2 * 0 + _ ≤ _; exact Nat.le_of_eq rfl) (by decide) (by decide) (by decide) (by decide) (hb hby d3_45) ?_
  intro v4 T4 h4 L4 X4 e4 q4
  obtain ⟨hv4, Nf4, hh4⟩ := q4
  subst hv4
  have E4 : T4.heap = h3 := e4.trans hh4
  have N4 := Fr.app N3 Nf4
  show Go p.tables e below _ T4 (mkF m 48 #[.val (.ref a1), .val (.ref b), .val (.int (0 : Int32)), .val (.int (2 : Int32)), .val .null, .val (.ref t3)] [(.int (0 : Int32)), (.ref a1)])
  have x6 : Ext h0 h3 := E3
  have f7 := C0.ext x6
  have f8 := E0.ext x6
  obtain ⟨T5, h5, X5, e5, W5, st5⟩ := putF X4 hx hZ hown (host := "") (Or.inl (w25 hw)) Via.refl E4 f7 f8 (Or.inr ⟨(w21 hw), rfl, hnm⟩) (w5 hw) (ty := .byte) (by decide) rfl rfl (g := (mkF m 48 #[.val (.ref a1), .val (.ref b), .val (.int (0 : Int32)), .val (.int (2 : Int32)), .val .null, .val (.ref t3)] [(.int (0 : Int32)), (.ref a1)])) rfl rfl (hb hby d3_48)
  have F5 := f7.same W5
  have N5 := Fr.snoc X5 N4 g0
  refine Go.st (T' := T5) (g' := (mkF m 51 #[.val (.ref a1), .val (.ref b), .val (.int (0 : Int32)), .val (.int (2 : Int32)), .val .null, .val (.ref t3)] [])) (fun _ zk => st5 _ zk) ?_
  refine Go.st (T' := T5) (g' := (mkF m 52 #[.val (.ref a1), .val (.ref b), .val (.int (0 : Int32)), .val (.int (2 : Int32)), .val .null, .val (.ref t3)] [(.ref a1)])) (fun _ zk => XS.aloadN X5.here hx rfl (hb hby d3_51) rfl rfl zk) ?_
  refine Go.st (T' := T5) (g' := (mkF m 54 #[.val (.ref a1), .val (.ref b), .val (.int (0 : Int32)), .val (.int (2 : Int32)), .val .null, .val (.ref t3)] [(.ref t3), (.ref a1)])) (fun _ zk => XS.aload X5.here hx rfl (hb hby d3_52) rfl rfl zk) ?_
  have f10 := ((V0.ext E3).other W5 (Or.inr (slot_ne (Or.inr (w20 hw)) (Or.inr (w21 hw)) (by decide) (t := (.array .byte)) (t' := .byte) (by decide) (by decide))))
  have f11 := (f8.wr W5)
  obtain ⟨T9, h9, X9, e9, W9, st9⟩ := putF X5 hx hZ hown (host := "") (Or.inl (w24 hw)) Via.refl e5 f10 f11 (Or.inr ⟨(w20 hw), rfl, hnm⟩) (w5 hw) (ty := (.array .byte)) (by decide) rfl rfl (g := (mkF m 54 #[.val (.ref a1), .val (.ref b), .val (.int (0 : Int32)), .val (.int (2 : Int32)), .val .null, .val (.ref t3)] [(.ref t3), (.ref a1)])) rfl rfl (hb hby d3_54)
  have F9 := f10.same W9
  have N9 := Fr.snoc X9 N5 g0
  refine Go.st (T' := T9) (g' := (mkF m 57 #[.val (.ref a1), .val (.ref b), .val (.int (0 : Int32)), .val (.int (2 : Int32)), .val .null, .val (.ref t3)] [])) (fun _ zk => st9 _ zk) ?_
  have f12 := (F5.other W9 (Or.inr (slot_ne (Or.inr (w21 hw)) (Or.inr (w20 hw)) (by decide) (t := .byte) (t' := (.array .byte)) (by decide) (by decide))))
  have f13 := ((V3.other W5 (Ne.symm (ne_lt E0.lt (Nat.le_refl _) ge3))).other W9 (Ne.symm (ne_lt E0.lt (Nat.le_refl _) ge3)))
  refine Go.retV X9 hx hlk hret (hb hby d3_57) (by decide) (by decide) e9 ?_
  exact ⟨rfl, N9, ((((Keep.refl h0 [a1]).ext E3).wr W5 (Or.inl (List.mem_of_getElem? (i := 0) rfl))).wr W9 (Or.inl (List.mem_of_getElem? (i := 0) rfl))), f12, t3, _, (Nat.le_trans (Nat.le_refl _) ge3), F9, f13⟩
def rr_init1_2 : Room := { frames := 3, cells := 1, slots := 2, locals := 52 }
set_option maxRecDepth 65536 in
set_option maxHeartbeats 40000000 in
theorem rm_init1_2 (l : Launch) (Z : State) (a0 : Array Value) (hw : ∀ d ∈ tables_1, d.before a0 Z = true) (ws : List Jvm.Cond) (a1 b : Addr) (kC : ClassId) (zc : Int32) (c0 c1 : Int32) (h0 : Heap) (n0 : Nat) (Z0 : n0 ≤ h0.size) (O0 : Old Z n0 h0) (E0 : Exa Z h0 a1 "java/lang/String") (g0 : n0 ≤ a1) (C0 : Fld Z h0 a1 "java/lang/String" "coder" "B" (.int (0 : Int32))) (V0 : Fld Z h0 a1 "java/lang/String" "value" "[B" .null) (VC : Arv Z h0 b kC .char (2 : Int32) [(.int c0), (.int c1)] (.int (0 : Int32))) (CS : Sta Z Z.heap "java/lang/String" "COMPACT_STRINGS" "Z" (.int zc)) (hz : ¬ zc = 0) (p0 : ¬ (255 : Int32) < c0) (p1 : ¬ (255 : Int32) < c1) :
    Con l Z (⟨"java/lang/String", "<init>", "([C)V"⟩ : MethodName) jdk_42_method_3_code 2 none ws rr_init1_2 #[(.ref a1), (.ref b)] h0 (fun v h L => v = none ∧ Fr n0 L ∧ Keep h0 h [a1] ∧ Fld Z h a1 "java/lang/String" "coder" "B" (.int (0 : Int32)) ∧ ∃ (t : Addr) (k : ClassId), h0.size ≤ t ∧ Fld Z h a1 "java/lang/String" "value" "[B" (.ref t) ∧ Arv Z h t k .byte (2 : Int32) [(.int (c0.toInt8.toInt32)), (.int (c1.toInt8.toInt32))] (.int (0 : Int32))) := by
  refine Con.enter (plainFor_of_name pn2) ?_
  intro p e s m below meth c s₁ X0 hx hZ hby hml hret hlk hown hnm e0
  have N0 := Fr.nil n0
  refine Go.cast (g' := (mkF m 0 #[.val (.ref a1), .val (.ref b)] [])) (by first | rfl | (simp [entryFrame, mkF, argsToLocals, Value.category]; done)) ?_
  refine Go.st (T' := s₁) (g' := (mkF m 1 #[.val (.ref a1), .val (.ref b)] [(.ref a1)])) (fun _ zk => XS.aloadN X0.here hx rfl (hb hby d2_0) rfl rfl zk) ?_
  refine Go.st (T' := s₁) (g' := (mkF m 2 #[.val (.ref a1), .val (.ref b)] [(.ref b), (.ref a1)])) (fun _ zk => XS.aloadN X0.here hx rfl (hb hby d2_1) rfl rfl zk) ?_
  refine Go.st (T' := s₁) (g' := (mkF m 3 #[.val (.ref a1), .val (.ref b)] [(.int (0 : Int32)), (.ref b), (.ref a1)])) (fun _ zk => XS.iconst X0.here hx rfl (hb hby d2_2) zk) ?_
  refine Go.st (T' := s₁) (g' := (mkF m 4 #[.val (.ref a1), .val (.ref b)] [(.ref b), (.int (0 : Int32)), (.ref b), (.ref a1)])) (fun _ zk => XS.aloadN X0.here hx rfl (hb hby d2_3) rfl rfl zk) ?_
  refine Go.st (T' := s₁) (g' := (mkF m 5 #[.val (.ref a1), .val (.ref b)] [(.int (2 : Int32)), (.int (0 : Int32)), (.ref b), (.ref a1)])) (fun _ zk => lenV X0 hx hZ e0 VC (g := (mkF m 4 #[.val (.ref a1), .val (.ref b)] [(.ref b), (.int (0 : Int32)), (.ref b), (.ref a1)])) rfl (rest := [(.int (0 : Int32)), (.ref b), (.ref a1)]) rfl (hb hby d2_4) zk) ?_
  refine Go.st (T' := s₁) (g' := (mkF m 6 #[.val (.ref a1), .val (.ref b)] [.null, (.int (2 : Int32)), (.int (0 : Int32)), (.ref b), (.ref a1)])) (fun _ zk => XS.aconstNull X0.here hx rfl (hb hby d2_5) zk) ?_
  refine Go.callSp (y := (⟨"java/lang/String", "<init>", "([CIILjava/lang/Void;)V"⟩ : MethodName)) (a := a1) X0 hx hZ hown e0 rfl (w11 hw) (w12 hw) (w6 hw) (w14 hw) (by decide) (argsL := [(.ref b), (.int (0 : Int32)), (.int (2 : Int32)), .null]) (rest := []) (W := 0) (rm_init4_2 l Z a0 hw [] a1 b kC zc c0 c1 h0 n0 Z0 O0 E0 g0 C0 V0 VC CS hz p0 p1) rfl (lenOf pd13 rfl) rfl (by rw [hml]; rfl) rfl (by show 2 * 0 + _ ≤ _; exact Nat.le_of_eq rfl) (by decide) (by decide) (by decide) (by decide) (hb hby d2_6) ?_
  intro v1 T1 h1 L1 X1 e1 q1
  obtain ⟨hv1, Nf1, K1, C1, t1, k1, ge1, F1, V1⟩ := q1
  subst hv1
  have N1 := Fr.app N0 Nf1
  show Go p.tables e below _ T1 (mkF m 9 #[.val (.ref a1), .val (.ref b)] [])
  refine Go.retV X1 hx hlk hret (hb hby d2_9) (by decide) (by decide) e1 ?_
  exact ⟨rfl, N1, ((Keep.refl h0 [a1]).trans K1 (allS (P := fun x => x ∈ [a1] ∨ h0.size ≤ x) (Or.inl (List.mem_of_getElem? (i := 0) rfl)) all0)), C1, t1, _, (Nat.le_trans (Nat.le_refl _) ge1), F1, V1⟩
def rr_cmp5_3 : Room := { frames := 0, cells := 0, slots := 0, locals := 0 }
set_option maxRecDepth 65536 in
set_option maxHeartbeats 40000000 in
theorem rm_cmp5_3 (l : Launch) (Z : State) (a0 : Array Value) (hw : ∀ d ∈ tables_1, d.before a0 Z = true) (ws : List Jvm.Cond) (b d : Addr) (kC kB : ClassId) (c0 c1 c2 : Int32) (h0 : Heap) (n0 : Nat) (Z0 : n0 ≤ h0.size) (VC : Arv Z h0 b kC .char (3 : Int32) [(.int c0), (.int c1), (.int c2)] (.int (0 : Int32))) (VB : Arv Z h0 d kB .byte (3 : Int32) [(.int (0 : Int32)), (.int (0 : Int32)), (.int (0 : Int32))] (.int (0 : Int32))) (hbd : b ≠ d) (gd : n0 ≤ d) (p0 : ¬ (255 : Int32) < c0) (p1 : ¬ (255 : Int32) < c1) (p2 : ¬ (255 : Int32) < c2) :
    Con l Z (⟨"java/lang/StringUTF16", "compress", "([CI[BII)I"⟩ : MethodName) jdk_52_method_21_code 7 (some .int) ws rr_cmp5_3 #[(.ref b), (.int (0 : Int32)), (.ref d), (.int (0 : Int32)), (.int (3 : Int32))] h0 (fun v h L => v = some (.int (3 : Int32)) ∧ Fr n0 L ∧ Keep h0 h [d] ∧ Arv Z h d kB .byte (3 : Int32) [(.int (c0.toInt8.toInt32)), (.int (c1.toInt8.toInt32)), (.int (c2.toInt8.toInt32))] (.int (0 : Int32))) := by
  refine Con.enter (plainFor_of_name pn9) ?_
  intro p e s m below meth c s₁ X0 hx hZ hby hml hret hlk hown hnm e0
  have N0 := Fr.nil n0
  refine Go.cast (g' := (mkF m 0 #[.val (.ref b), .val (.int (0 : Int32)), .val (.ref d), .val (.int (0 : Int32)), .val (.int (3 : Int32)), .unset, .unset] [])) (by first | rfl | (simp [entryFrame, mkF, argsToLocals, Value.category]; done)) ?_
  refine Go.st (T' := s₁) (g' := (mkF m 1 #[.val (.ref b), .val (.int (0 : Int32)), .val (.ref d), .val (.int (0 : Int32)), .val (.int (3 : Int32)), .unset, .unset] [(.int (0 : Int32))])) (fun _ zk => XS.iconst X0.here hx rfl (hb hby d10_0) zk) ?_
  refine Go.st (T' := s₁) (g' := (mkF m 3 #[.val (.ref b), .val (.int (0 : Int32)), .val (.ref d), .val (.int (0 : Int32)), .val (.int (3 : Int32)), .val (.int (0 : Int32)), .unset] [])) (fun _ zk => XS.istore X0.here hx rfl (hb hby d10_1) rfl (l' := #[.val (.ref b), .val (.int (0 : Int32)), .val (.ref d), .val (.int (0 : Int32)), .val (.int (3 : Int32)), .val (.int (0 : Int32)), .unset]) rfl zk) ?_
  refine Go.st (T' := s₁) (g' := (mkF m 5 #[.val (.ref b), .val (.int (0 : Int32)), .val (.ref d), .val (.int (0 : Int32)), .val (.int (3 : Int32)), .val (.int (0 : Int32)), .unset] [(.int (0 : Int32))])) (fun _ zk => XS.iload X0.here hx rfl (hb hby d10_3) rfl zk) ?_
  refine Go.st (T' := s₁) (g' := (mkF m 7 #[.val (.ref b), .val (.int (0 : Int32)), .val (.ref d), .val (.int (0 : Int32)), .val (.int (3 : Int32)), .val (.int (0 : Int32)), .unset] [(.int (3 : Int32)), (.int (0 : Int32))])) (fun _ zk => XS.iload X0.here hx rfl (hb hby d10_5) rfl zk) ?_
  refine Go.st (T' := s₁) (g' := (mkF m 10 #[.val (.ref b), .val (.int (0 : Int32)), .val (.ref d), .val (.int (0 : Int32)), .val (.int (3 : Int32)), .val (.int (0 : Int32)), .unset] [])) (fun _ zk => XS.icmpNo X0.here hx rfl (hb hby d10_7) rfl (tlt ((by decide) : (0 : Int32) < (3 : Int32))).2.1 zk) ?_
  refine Go.st (T' := s₁) (g' := (mkF m 11 #[.val (.ref b), .val (.int (0 : Int32)), .val (.ref d), .val (.int (0 : Int32)), .val (.int (3 : Int32)), .val (.int (0 : Int32)), .unset] [(.ref b)])) (fun _ zk => XS.aloadN X0.here hx rfl (hb hby d10_10) rfl rfl zk) ?_
  refine Go.st (T' := s₁) (g' := (mkF m 12 #[.val (.ref b), .val (.int (0 : Int32)), .val (.ref d), .val (.int (0 : Int32)), .val (.int (3 : Int32)), .val (.int (0 : Int32)), .unset] [(.int (0 : Int32)), (.ref b)])) (fun _ zk => XS.iloadN X0.here hx rfl (hb hby d10_11) rfl zk) ?_
  refine Go.st (T' := s₁) (g' := (mkF m 13 #[.val (.ref b), .val (.int (0 : Int32)), .val (.ref d), .val (.int (0 : Int32)), .val (.int (3 : Int32)), .val (.int (0 : Int32)), .unset] [(.int c0)])) (fun _ zk => ldCV X0 hx hZ e0 VC (j := (0 : Int32)) ⟨by decide, by decide⟩ (v := (.int c0)) rfl (g := (mkF m 12 #[.val (.ref b), .val (.int (0 : Int32)), .val (.ref d), .val (.int (0 : Int32)), .val (.int (3 : Int32)), .val (.int (0 : Int32)), .unset] [(.int (0 : Int32)), (.ref b)])) rfl (rest := []) rfl (hb hby d10_12) zk) ?_
  refine Go.st (T' := s₁) (g' := (mkF m 15 #[.val (.ref b), .val (.int (0 : Int32)), .val (.ref d), .val (.int (0 : Int32)), .val (.int (3 : Int32)), .val (.int (0 : Int32)), .val (.int c0)] [])) (fun _ zk => XS.istore X0.here hx rfl (hb hby d10_13) rfl (l' := #[.val (.ref b), .val (.int (0 : Int32)), .val (.ref d), .val (.int (0 : Int32)), .val (.int (3 : Int32)), .val (.int (0 : Int32)), .val (.int c0)]) rfl zk) ?_
  refine Go.st (T' := s₁) (g' := (mkF m 17 #[.val (.ref b), .val (.int (0 : Int32)), .val (.ref d), .val (.int (0 : Int32)), .val (.int (3 : Int32)), .val (.int (0 : Int32)), .val (.int c0)] [(.int c0)])) (fun _ zk => XS.iload X0.here hx rfl (hb hby d10_15) rfl zk) ?_
  refine Go.st (T' := s₁) (g' := (mkF m 20 #[.val (.ref b), .val (.int (0 : Int32)), .val (.ref d), .val (.int (0 : Int32)), .val (.int (3 : Int32)), .val (.int (0 : Int32)), .val (.int c0)] [(.int (255 : Int32)), (.int c0)])) (fun _ zk => XS.sipush X0.here hx rfl (hb hby d10_17) zk) ?_
  refine Go.st (T' := s₁) (g' := (mkF m 26 #[.val (.ref b), .val (.int (0 : Int32)), .val (.ref d), .val (.int (0 : Int32)), .val (.int (3 : Int32)), .val (.int (0 : Int32)), .val (.int c0)] [])) (fun _ zk => XS.icmpYes X0.here hx rfl (pc0 := 20) (pc' := 26) rfl (hb hby d10_20) rfl (flt (p0 : ¬ ((255 : Int32) < c0))).2.2.2 (by decide) (by decide) zk) ?_
  refine Go.st (T' := s₁) (g' := (mkF m 27 #[.val (.ref b), .val (.int (0 : Int32)), .val (.ref d), .val (.int (0 : Int32)), .val (.int (3 : Int32)), .val (.int (0 : Int32)), .val (.int c0)] [(.ref d)])) (fun _ zk => XS.aloadN X0.here hx rfl (hb hby d10_26) rfl rfl zk) ?_
  refine Go.st (T' := s₁) (g' := (mkF m 28 #[.val (.ref b), .val (.int (0 : Int32)), .val (.ref d), .val (.int (0 : Int32)), .val (.int (3 : Int32)), .val (.int (0 : Int32)), .val (.int c0)] [(.int (0 : Int32)), (.ref d)])) (fun _ zk => XS.iloadN X0.here hx rfl (hb hby d10_27) rfl zk) ?_
  refine Go.st (T' := s₁) (g' := (mkF m 30 #[.val (.ref b), .val (.int (0 : Int32)), .val (.ref d), .val (.int (0 : Int32)), .val (.int (3 : Int32)), .val (.int (0 : Int32)), .val (.int c0)] [(.int c0), (.int (0 : Int32)), (.ref d)])) (fun _ zk => XS.iload X0.here hx rfl (hb hby d10_28) rfl zk) ?_
  refine Go.st (T' := s₁) (g' := (mkF m 31 #[.val (.ref b), .val (.int (0 : Int32)), .val (.ref d), .val (.int (0 : Int32)), .val (.int (3 : Int32)), .val (.int (0 : Int32)), .val (.int c0)] [(.int (c0.toInt8.toInt32)), (.int (0 : Int32)), (.ref d)])) (fun _ zk => XS.i2b X0.here hx rfl (hb hby d10_30) rfl zk) ?_
  obtain ⟨T1, h1, X1, e1, W1, V1, st1⟩ := stBV X0 hx hZ e0 VB (j := (0 : Int32)) (i := 0) (by decide) rfl (Nat.le_of_ble_eq_true rfl) (g := (mkF m 31 #[.val (.ref b), .val (.int (0 : Int32)), .val (.ref d), .val (.int (0 : Int32)), .val (.int (3 : Int32)), .val (.int (0 : Int32)), .val (.int c0)] [(.int (c0.toInt8.toInt32)), (.int (0 : Int32)), (.ref d)])) rfl rfl (hb hby d10_31)
  rw [nar_b] at V1
  have V1' : Arv Z h1 d kB .byte (3 : Int32) [(.int (c0.toInt8.toInt32)), (.int (0 : Int32)), (.int (0 : Int32))] (.int (0 : Int32)) := V1
  have N1 := Fr.snoc X1 N0 gd
  refine Go.st (T' := T1) (g' := (mkF m 32 #[.val (.ref b), .val (.int (0 : Int32)), .val (.ref d), .val (.int (0 : Int32)), .val (.int (3 : Int32)), .val (.int (0 : Int32)), .val (.int c0)] [])) (fun _ zk => st1 _ zk) ?_
  refine Go.st (T' := T1) (g' := (mkF m 35 #[.val (.ref b), .val (.int ((0 : Int32) + (1 : Int32))), .val (.ref d), .val (.int (0 : Int32)), .val (.int (3 : Int32)), .val (.int (0 : Int32)), .val (.int c0)] [])) (fun _ zk => XS.iinc X1.here hx rfl (hb hby d10_32) rfl (l' := #[.val (.ref b), .val (.int ((0 : Int32) + (1 : Int32))), .val (.ref d), .val (.int (0 : Int32)), .val (.int (3 : Int32)), .val (.int (0 : Int32)), .val (.int c0)]) rfl zk) ?_
  rw [show ((0 : Int32) + (1 : Int32)) = (1 : Int32) from by decide]
  refine Go.st (T' := T1) (g' := (mkF m 38 #[.val (.ref b), .val (.int (1 : Int32)), .val (.ref d), .val (.int ((0 : Int32) + (1 : Int32))), .val (.int (3 : Int32)), .val (.int (0 : Int32)), .val (.int c0)] [])) (fun _ zk => XS.iinc X1.here hx rfl (hb hby d10_35) rfl (l' := #[.val (.ref b), .val (.int (1 : Int32)), .val (.ref d), .val (.int ((0 : Int32) + (1 : Int32))), .val (.int (3 : Int32)), .val (.int (0 : Int32)), .val (.int c0)]) rfl zk) ?_
  rw [show ((0 : Int32) + (1 : Int32)) = (1 : Int32) from by decide]
  refine Go.st (T' := T1) (g' := (mkF m 41 #[.val (.ref b), .val (.int (1 : Int32)), .val (.ref d), .val (.int (1 : Int32)), .val (.int (3 : Int32)), .val (.int ((0 : Int32) + (1 : Int32))), .val (.int c0)] [])) (fun _ zk => XS.iinc X1.here hx rfl (hb hby d10_38) rfl (l' := #[.val (.ref b), .val (.int (1 : Int32)), .val (.ref d), .val (.int (1 : Int32)), .val (.int (3 : Int32)), .val (.int ((0 : Int32) + (1 : Int32))), .val (.int c0)]) rfl zk) ?_
  rw [show ((0 : Int32) + (1 : Int32)) = (1 : Int32) from by decide]
  refine Go.st (T' := T1) (g' := (mkF m 3 #[.val (.ref b), .val (.int (1 : Int32)), .val (.ref d), .val (.int (1 : Int32)), .val (.int (3 : Int32)), .val (.int (1 : Int32)), .val (.int c0)] [])) (fun _ zk => XS.goto X1.here hx rfl (pc0 := 41) (pc' := 3) rfl (hb hby d10_41) (by decide) (by decide) zk) ?_
  refine Go.st (T' := T1) (g' := (mkF m 5 #[.val (.ref b), .val (.int (1 : Int32)), .val (.ref d), .val (.int (1 : Int32)), .val (.int (3 : Int32)), .val (.int (1 : Int32)), .val (.int c0)] [(.int (1 : Int32))])) (fun _ zk => XS.iload X1.here hx rfl (hb hby d10_3) rfl zk) ?_
  refine Go.st (T' := T1) (g' := (mkF m 7 #[.val (.ref b), .val (.int (1 : Int32)), .val (.ref d), .val (.int (1 : Int32)), .val (.int (3 : Int32)), .val (.int (1 : Int32)), .val (.int c0)] [(.int (3 : Int32)), (.int (1 : Int32))])) (fun _ zk => XS.iload X1.here hx rfl (hb hby d10_5) rfl zk) ?_
  refine Go.st (T' := T1) (g' := (mkF m 10 #[.val (.ref b), .val (.int (1 : Int32)), .val (.ref d), .val (.int (1 : Int32)), .val (.int (3 : Int32)), .val (.int (1 : Int32)), .val (.int c0)] [])) (fun _ zk => XS.icmpNo X1.here hx rfl (hb hby d10_7) rfl (tlt ((by decide) : (1 : Int32) < (3 : Int32))).2.1 zk) ?_
  refine Go.st (T' := T1) (g' := (mkF m 11 #[.val (.ref b), .val (.int (1 : Int32)), .val (.ref d), .val (.int (1 : Int32)), .val (.int (3 : Int32)), .val (.int (1 : Int32)), .val (.int c0)] [(.ref b)])) (fun _ zk => XS.aloadN X1.here hx rfl (hb hby d10_10) rfl rfl zk) ?_
  refine Go.st (T' := T1) (g' := (mkF m 12 #[.val (.ref b), .val (.int (1 : Int32)), .val (.ref d), .val (.int (1 : Int32)), .val (.int (3 : Int32)), .val (.int (1 : Int32)), .val (.int c0)] [(.int (1 : Int32)), (.ref b)])) (fun _ zk => XS.iloadN X1.here hx rfl (hb hby d10_11) rfl zk) ?_
  have f2 := (VC.other W1 hbd)
  refine Go.st (T' := T1) (g' := (mkF m 13 #[.val (.ref b), .val (.int (1 : Int32)), .val (.ref d), .val (.int (1 : Int32)), .val (.int (3 : Int32)), .val (.int (1 : Int32)), .val (.int c0)] [(.int c1)])) (fun _ zk => ldCV X1 hx hZ e1 f2 (j := (1 : Int32)) ⟨by decide, by decide⟩ (v := (.int c1)) rfl (g := (mkF m 12 #[.val (.ref b), .val (.int (1 : Int32)), .val (.ref d), .val (.int (1 : Int32)), .val (.int (3 : Int32)), .val (.int (1 : Int32)), .val (.int c0)] [(.int (1 : Int32)), (.ref b)])) rfl (rest := []) rfl (hb hby d10_12) zk) ?_
  refine Go.st (T' := T1) (g' := (mkF m 15 #[.val (.ref b), .val (.int (1 : Int32)), .val (.ref d), .val (.int (1 : Int32)), .val (.int (3 : Int32)), .val (.int (1 : Int32)), .val (.int c1)] [])) (fun _ zk => XS.istore X1.here hx rfl (hb hby d10_13) rfl (l' := #[.val (.ref b), .val (.int (1 : Int32)), .val (.ref d), .val (.int (1 : Int32)), .val (.int (3 : Int32)), .val (.int (1 : Int32)), .val (.int c1)]) rfl zk) ?_
  refine Go.st (T' := T1) (g' := (mkF m 17 #[.val (.ref b), .val (.int (1 : Int32)), .val (.ref d), .val (.int (1 : Int32)), .val (.int (3 : Int32)), .val (.int (1 : Int32)), .val (.int c1)] [(.int c1)])) (fun _ zk => XS.iload X1.here hx rfl (hb hby d10_15) rfl zk) ?_
  refine Go.st (T' := T1) (g' := (mkF m 20 #[.val (.ref b), .val (.int (1 : Int32)), .val (.ref d), .val (.int (1 : Int32)), .val (.int (3 : Int32)), .val (.int (1 : Int32)), .val (.int c1)] [(.int (255 : Int32)), (.int c1)])) (fun _ zk => XS.sipush X1.here hx rfl (hb hby d10_17) zk) ?_
  refine Go.st (T' := T1) (g' := (mkF m 26 #[.val (.ref b), .val (.int (1 : Int32)), .val (.ref d), .val (.int (1 : Int32)), .val (.int (3 : Int32)), .val (.int (1 : Int32)), .val (.int c1)] [])) (fun _ zk => XS.icmpYes X1.here hx rfl (pc0 := 20) (pc' := 26) rfl (hb hby d10_20) rfl (flt (p1 : ¬ ((255 : Int32) < c1))).2.2.2 (by decide) (by decide) zk) ?_
  refine Go.st (T' := T1) (g' := (mkF m 27 #[.val (.ref b), .val (.int (1 : Int32)), .val (.ref d), .val (.int (1 : Int32)), .val (.int (3 : Int32)), .val (.int (1 : Int32)), .val (.int c1)] [(.ref d)])) (fun _ zk => XS.aloadN X1.here hx rfl (hb hby d10_26) rfl rfl zk) ?_
  refine Go.st (T' := T1) (g' := (mkF m 28 #[.val (.ref b), .val (.int (1 : Int32)), .val (.ref d), .val (.int (1 : Int32)), .val (.int (3 : Int32)), .val (.int (1 : Int32)), .val (.int c1)] [(.int (1 : Int32)), (.ref d)])) (fun _ zk => XS.iloadN X1.here hx rfl (hb hby d10_27) rfl zk) ?_
  refine Go.st (T' := T1) (g' := (mkF m 30 #[.val (.ref b), .val (.int (1 : Int32)), .val (.ref d), .val (.int (1 : Int32)), .val (.int (3 : Int32)), .val (.int (1 : Int32)), .val (.int c1)] [(.int c1), (.int (1 : Int32)), (.ref d)])) (fun _ zk => XS.iload X1.here hx rfl (hb hby d10_28) rfl zk) ?_
  refine Go.st (T' := T1) (g' := (mkF m 31 #[.val (.ref b), .val (.int (1 : Int32)), .val (.ref d), .val (.int (1 : Int32)), .val (.int (3 : Int32)), .val (.int (1 : Int32)), .val (.int c1)] [(.int (c1.toInt8.toInt32)), (.int (1 : Int32)), (.ref d)])) (fun _ zk => XS.i2b X1.here hx rfl (hb hby d10_30) rfl zk) ?_
  obtain ⟨T3, h3, X3, e3, W3, V3, st3⟩ := stBV X1 hx hZ e1 V1' (j := (1 : Int32)) (i := 1) (by decide) rfl (Nat.le_of_ble_eq_true rfl) (g := (mkF m 31 #[.val (.ref b), .val (.int (1 : Int32)), .val (.ref d), .val (.int (1 : Int32)), .val (.int (3 : Int32)), .val (.int (1 : Int32)), .val (.int c1)] [(.int (c1.toInt8.toInt32)), (.int (1 : Int32)), (.ref d)])) rfl rfl (hb hby d10_31)
  rw [nar_b] at V3
  have V3' : Arv Z h3 d kB .byte (3 : Int32) [(.int (c0.toInt8.toInt32)), (.int (c1.toInt8.toInt32)), (.int (0 : Int32))] (.int (0 : Int32)) := V3
  have N3 := Fr.snoc X3 N1 gd
  refine Go.st (T' := T3) (g' := (mkF m 32 #[.val (.ref b), .val (.int (1 : Int32)), .val (.ref d), .val (.int (1 : Int32)), .val (.int (3 : Int32)), .val (.int (1 : Int32)), .val (.int c1)] [])) (fun _ zk => st3 _ zk) ?_
  refine Go.st (T' := T3) (g' := (mkF m 35 #[.val (.ref b), .val (.int ((1 : Int32) + (1 : Int32))), .val (.ref d), .val (.int (1 : Int32)), .val (.int (3 : Int32)), .val (.int (1 : Int32)), .val (.int c1)] [])) (fun _ zk => XS.iinc X3.here hx rfl (hb hby d10_32) rfl (l' := #[.val (.ref b), .val (.int ((1 : Int32) + (1 : Int32))), .val (.ref d), .val (.int (1 : Int32)), .val (.int (3 : Int32)), .val (.int (1 : Int32)), .val (.int c1)]) rfl zk) ?_
  rw [show ((1 : Int32) + (1 : Int32)) = (2 : Int32) from by decide]
  refine Go.st (T' := T3) (g' := (mkF m 38 #[.val (.ref b), .val (.int (2 : Int32)), .val (.ref d), .val (.int ((1 : Int32) + (1 : Int32))), .val (.int (3 : Int32)), .val (.int (1 : Int32)), .val (.int c1)] [])) (fun _ zk => XS.iinc X3.here hx rfl (hb hby d10_35) rfl (l' := #[.val (.ref b), .val (.int (2 : Int32)), .val (.ref d), .val (.int ((1 : Int32) + (1 : Int32))), .val (.int (3 : Int32)), .val (.int (1 : Int32)), .val (.int c1)]) rfl zk) ?_
  rw [show ((1 : Int32) + (1 : Int32)) = (2 : Int32) from by decide]
  refine Go.st (T' := T3) (g' := (mkF m 41 #[.val (.ref b), .val (.int (2 : Int32)), .val (.ref d), .val (.int (2 : Int32)), .val (.int (3 : Int32)), .val (.int ((1 : Int32) + (1 : Int32))), .val (.int c1)] [])) (fun _ zk => XS.iinc X3.here hx rfl (hb hby d10_38) rfl (l' := #[.val (.ref b), .val (.int (2 : Int32)), .val (.ref d), .val (.int (2 : Int32)), .val (.int (3 : Int32)), .val (.int ((1 : Int32) + (1 : Int32))), .val (.int c1)]) rfl zk) ?_
  rw [show ((1 : Int32) + (1 : Int32)) = (2 : Int32) from by decide]
  refine Go.st (T' := T3) (g' := (mkF m 3 #[.val (.ref b), .val (.int (2 : Int32)), .val (.ref d), .val (.int (2 : Int32)), .val (.int (3 : Int32)), .val (.int (2 : Int32)), .val (.int c1)] [])) (fun _ zk => XS.goto X3.here hx rfl (pc0 := 41) (pc' := 3) rfl (hb hby d10_41) (by decide) (by decide) zk) ?_
  refine Go.st (T' := T3) (g' := (mkF m 5 #[.val (.ref b), .val (.int (2 : Int32)), .val (.ref d), .val (.int (2 : Int32)), .val (.int (3 : Int32)), .val (.int (2 : Int32)), .val (.int c1)] [(.int (2 : Int32))])) (fun _ zk => XS.iload X3.here hx rfl (hb hby d10_3) rfl zk) ?_
  refine Go.st (T' := T3) (g' := (mkF m 7 #[.val (.ref b), .val (.int (2 : Int32)), .val (.ref d), .val (.int (2 : Int32)), .val (.int (3 : Int32)), .val (.int (2 : Int32)), .val (.int c1)] [(.int (3 : Int32)), (.int (2 : Int32))])) (fun _ zk => XS.iload X3.here hx rfl (hb hby d10_5) rfl zk) ?_
  refine Go.st (T' := T3) (g' := (mkF m 10 #[.val (.ref b), .val (.int (2 : Int32)), .val (.ref d), .val (.int (2 : Int32)), .val (.int (3 : Int32)), .val (.int (2 : Int32)), .val (.int c1)] [])) (fun _ zk => XS.icmpNo X3.here hx rfl (hb hby d10_7) rfl (tlt ((by decide) : (2 : Int32) < (3 : Int32))).2.1 zk) ?_
  refine Go.st (T' := T3) (g' := (mkF m 11 #[.val (.ref b), .val (.int (2 : Int32)), .val (.ref d), .val (.int (2 : Int32)), .val (.int (3 : Int32)), .val (.int (2 : Int32)), .val (.int c1)] [(.ref b)])) (fun _ zk => XS.aloadN X3.here hx rfl (hb hby d10_10) rfl rfl zk) ?_
  refine Go.st (T' := T3) (g' := (mkF m 12 #[.val (.ref b), .val (.int (2 : Int32)), .val (.ref d), .val (.int (2 : Int32)), .val (.int (3 : Int32)), .val (.int (2 : Int32)), .val (.int c1)] [(.int (2 : Int32)), (.ref b)])) (fun _ zk => XS.iloadN X3.here hx rfl (hb hby d10_11) rfl zk) ?_
  have f4 := (f2.other W3 hbd)
  refine Go.st (T' := T3) (g' := (mkF m 13 #[.val (.ref b), .val (.int (2 : Int32)), .val (.ref d), .val (.int (2 : Int32)), .val (.int (3 : Int32)), .val (.int (2 : Int32)), .val (.int c1)] [(.int c2)])) (fun _ zk => ldCV X3 hx hZ e3 f4 (j := (2 : Int32)) ⟨by decide, by decide⟩ (v := (.int c2)) rfl (g := (mkF m 12 #[.val (.ref b), .val (.int (2 : Int32)), .val (.ref d), .val (.int (2 : Int32)), .val (.int (3 : Int32)), .val (.int (2 : Int32)), .val (.int c1)] [(.int (2 : Int32)), (.ref b)])) rfl (rest := []) rfl (hb hby d10_12) zk) ?_
  refine Go.st (T' := T3) (g' := (mkF m 15 #[.val (.ref b), .val (.int (2 : Int32)), .val (.ref d), .val (.int (2 : Int32)), .val (.int (3 : Int32)), .val (.int (2 : Int32)), .val (.int c2)] [])) (fun _ zk => XS.istore X3.here hx rfl (hb hby d10_13) rfl (l' := #[.val (.ref b), .val (.int (2 : Int32)), .val (.ref d), .val (.int (2 : Int32)), .val (.int (3 : Int32)), .val (.int (2 : Int32)), .val (.int c2)]) rfl zk) ?_
  refine Go.st (T' := T3) (g' := (mkF m 17 #[.val (.ref b), .val (.int (2 : Int32)), .val (.ref d), .val (.int (2 : Int32)), .val (.int (3 : Int32)), .val (.int (2 : Int32)), .val (.int c2)] [(.int c2)])) (fun _ zk => XS.iload X3.here hx rfl (hb hby d10_15) rfl zk) ?_
  refine Go.st (T' := T3) (g' := (mkF m 20 #[.val (.ref b), .val (.int (2 : Int32)), .val (.ref d), .val (.int (2 : Int32)), .val (.int (3 : Int32)), .val (.int (2 : Int32)), .val (.int c2)] [(.int (255 : Int32)), (.int c2)])) (fun _ zk => XS.sipush X3.here hx rfl (hb hby d10_17) zk) ?_
  refine Go.st (T' := T3) (g' := (mkF m 26 #[.val (.ref b), .val (.int (2 : Int32)), .val (.ref d), .val (.int (2 : Int32)), .val (.int (3 : Int32)), .val (.int (2 : Int32)), .val (.int c2)] [])) (fun _ zk => XS.icmpYes X3.here hx rfl (pc0 := 20) (pc' := 26) rfl (hb hby d10_20) rfl (flt (p2 : ¬ ((255 : Int32) < c2))).2.2.2 (by decide) (by decide) zk) ?_
  refine Go.st (T' := T3) (g' := (mkF m 27 #[.val (.ref b), .val (.int (2 : Int32)), .val (.ref d), .val (.int (2 : Int32)), .val (.int (3 : Int32)), .val (.int (2 : Int32)), .val (.int c2)] [(.ref d)])) (fun _ zk => XS.aloadN X3.here hx rfl (hb hby d10_26) rfl rfl zk) ?_
  refine Go.st (T' := T3) (g' := (mkF m 28 #[.val (.ref b), .val (.int (2 : Int32)), .val (.ref d), .val (.int (2 : Int32)), .val (.int (3 : Int32)), .val (.int (2 : Int32)), .val (.int c2)] [(.int (2 : Int32)), (.ref d)])) (fun _ zk => XS.iloadN X3.here hx rfl (hb hby d10_27) rfl zk) ?_
  refine Go.st (T' := T3) (g' := (mkF m 30 #[.val (.ref b), .val (.int (2 : Int32)), .val (.ref d), .val (.int (2 : Int32)), .val (.int (3 : Int32)), .val (.int (2 : Int32)), .val (.int c2)] [(.int c2), (.int (2 : Int32)), (.ref d)])) (fun _ zk => XS.iload X3.here hx rfl (hb hby d10_28) rfl zk) ?_
  refine Go.st (T' := T3) (g' := (mkF m 31 #[.val (.ref b), .val (.int (2 : Int32)), .val (.ref d), .val (.int (2 : Int32)), .val (.int (3 : Int32)), .val (.int (2 : Int32)), .val (.int c2)] [(.int (c2.toInt8.toInt32)), (.int (2 : Int32)), (.ref d)])) (fun _ zk => XS.i2b X3.here hx rfl (hb hby d10_30) rfl zk) ?_
  obtain ⟨T5, h5, X5, e5, W5, V5, st5⟩ := stBV X3 hx hZ e3 V3' (j := (2 : Int32)) (i := 2) (by decide) rfl (Nat.le_of_ble_eq_true rfl) (g := (mkF m 31 #[.val (.ref b), .val (.int (2 : Int32)), .val (.ref d), .val (.int (2 : Int32)), .val (.int (3 : Int32)), .val (.int (2 : Int32)), .val (.int c2)] [(.int (c2.toInt8.toInt32)), (.int (2 : Int32)), (.ref d)])) rfl rfl (hb hby d10_31)
  rw [nar_b] at V5
  have V5' : Arv Z h5 d kB .byte (3 : Int32) [(.int (c0.toInt8.toInt32)), (.int (c1.toInt8.toInt32)), (.int (c2.toInt8.toInt32))] (.int (0 : Int32)) := V5
  have N5 := Fr.snoc X5 N3 gd
  refine Go.st (T' := T5) (g' := (mkF m 32 #[.val (.ref b), .val (.int (2 : Int32)), .val (.ref d), .val (.int (2 : Int32)), .val (.int (3 : Int32)), .val (.int (2 : Int32)), .val (.int c2)] [])) (fun _ zk => st5 _ zk) ?_
  refine Go.st (T' := T5) (g' := (mkF m 35 #[.val (.ref b), .val (.int ((2 : Int32) + (1 : Int32))), .val (.ref d), .val (.int (2 : Int32)), .val (.int (3 : Int32)), .val (.int (2 : Int32)), .val (.int c2)] [])) (fun _ zk => XS.iinc X5.here hx rfl (hb hby d10_32) rfl (l' := #[.val (.ref b), .val (.int ((2 : Int32) + (1 : Int32))), .val (.ref d), .val (.int (2 : Int32)), .val (.int (3 : Int32)), .val (.int (2 : Int32)), .val (.int c2)]) rfl zk) ?_
  rw [show ((2 : Int32) + (1 : Int32)) = (3 : Int32) from by decide]
  refine Go.st (T' := T5) (g' := (mkF m 38 #[.val (.ref b), .val (.int (3 : Int32)), .val (.ref d), .val (.int ((2 : Int32) + (1 : Int32))), .val (.int (3 : Int32)), .val (.int (2 : Int32)), .val (.int c2)] [])) (fun _ zk => XS.iinc X5.here hx rfl (hb hby d10_35) rfl (l' := #[.val (.ref b), .val (.int (3 : Int32)), .val (.ref d), .val (.int ((2 : Int32) + (1 : Int32))), .val (.int (3 : Int32)), .val (.int (2 : Int32)), .val (.int c2)]) rfl zk) ?_
  rw [show ((2 : Int32) + (1 : Int32)) = (3 : Int32) from by decide]
  refine Go.st (T' := T5) (g' := (mkF m 41 #[.val (.ref b), .val (.int (3 : Int32)), .val (.ref d), .val (.int (3 : Int32)), .val (.int (3 : Int32)), .val (.int ((2 : Int32) + (1 : Int32))), .val (.int c2)] [])) (fun _ zk => XS.iinc X5.here hx rfl (hb hby d10_38) rfl (l' := #[.val (.ref b), .val (.int (3 : Int32)), .val (.ref d), .val (.int (3 : Int32)), .val (.int (3 : Int32)), .val (.int ((2 : Int32) + (1 : Int32))), .val (.int c2)]) rfl zk) ?_
  rw [show ((2 : Int32) + (1 : Int32)) = (3 : Int32) from by decide]
  refine Go.st (T' := T5) (g' := (mkF m 3 #[.val (.ref b), .val (.int (3 : Int32)), .val (.ref d), .val (.int (3 : Int32)), .val (.int (3 : Int32)), .val (.int (3 : Int32)), .val (.int c2)] [])) (fun _ zk => XS.goto X5.here hx rfl (pc0 := 41) (pc' := 3) rfl (hb hby d10_41) (by decide) (by decide) zk) ?_
  refine Go.st (T' := T5) (g' := (mkF m 5 #[.val (.ref b), .val (.int (3 : Int32)), .val (.ref d), .val (.int (3 : Int32)), .val (.int (3 : Int32)), .val (.int (3 : Int32)), .val (.int c2)] [(.int (3 : Int32))])) (fun _ zk => XS.iload X5.here hx rfl (hb hby d10_3) rfl zk) ?_
  refine Go.st (T' := T5) (g' := (mkF m 7 #[.val (.ref b), .val (.int (3 : Int32)), .val (.ref d), .val (.int (3 : Int32)), .val (.int (3 : Int32)), .val (.int (3 : Int32)), .val (.int c2)] [(.int (3 : Int32)), (.int (3 : Int32))])) (fun _ zk => XS.iload X5.here hx rfl (hb hby d10_5) rfl zk) ?_
  refine Go.st (T' := T5) (g' := (mkF m 44 #[.val (.ref b), .val (.int (3 : Int32)), .val (.ref d), .val (.int (3 : Int32)), .val (.int (3 : Int32)), .val (.int (3 : Int32)), .val (.int c2)] [])) (fun _ zk => XS.icmpYes X5.here hx rfl (pc0 := 7) (pc' := 44) rfl (hb hby d10_7) rfl (flt ((by decide) : ¬ ((3 : Int32) < (3 : Int32)))).2.1 (by decide) (by decide) zk) ?_
  refine Go.st (T' := T5) (g' := (mkF m 46 #[.val (.ref b), .val (.int (3 : Int32)), .val (.ref d), .val (.int (3 : Int32)), .val (.int (3 : Int32)), .val (.int (3 : Int32)), .val (.int c2)] [(.int (3 : Int32))])) (fun _ zk => XS.iload X5.here hx rfl (hb hby d10_44) rfl zk) ?_
  refine Go.retN X5 hx hlk hret rfl (by simp) (hb hby d10_46) (by decide) (by decide) e5 ?_
  exact ⟨rfl, N5, ((((Keep.refl h0 [d]).wr W1 (Or.inl (List.mem_of_getElem? (i := 0) rfl))).wr W3 (Or.inl (List.mem_of_getElem? (i := 0) rfl))).wr W5 (Or.inl (List.mem_of_getElem? (i := 0) rfl))), V5'⟩
def rr_cmp3_3 : Room := { frames := 1, cells := 1, slots := 3, locals := 18 }
set_option maxRecDepth 65536 in
set_option maxHeartbeats 40000000 in
theorem rm_cmp3_3 (l : Launch) (Z : State) (a0 : Array Value) (hw : ∀ d ∈ tables_1, d.before a0 Z = true) (ws : List Jvm.Cond) (b : Addr) (kC : ClassId) (c0 c1 c2 : Int32) (h0 : Heap) (n0 : Nat) (Z0 : n0 ≤ h0.size) (VC : Arv Z h0 b kC .char (3 : Int32) [(.int c0), (.int c1), (.int c2)] (.int (0 : Int32))) (p0 : ¬ (255 : Int32) < c0) (p1 : ¬ (255 : Int32) < c1) (p2 : ¬ (255 : Int32) < c2) :
    Con l Z (⟨"java/lang/StringUTF16", "compress", "([CII)[B"⟩ : MethodName) jdk_52_method_16_code 6 (some (.array .byte)) ws rr_cmp3_3 #[(.ref b), (.int (0 : Int32)), (.int (3 : Int32))] h0 (fun v h L => ∃ (t : Addr) (k : ClassId), v = some (.ref t) ∧ Fr n0 L ∧ Ext h0 h ∧ h0.size ≤ t ∧ Arv Z h t k .byte (3 : Int32) [(.int (c0.toInt8.toInt32)), (.int (c1.toInt8.toInt32)), (.int (c2.toInt8.toInt32))] (.int (0 : Int32))) := by
  refine Con.enter (plainFor_of_name pn9) ?_
  intro p e s m below meth c s₁ X0 hx hZ hby hml hret hlk hown hnm e0
  have N0 := Fr.nil n0
  refine Go.cast (g' := (mkF m 0 #[.val (.ref b), .val (.int (0 : Int32)), .val (.int (3 : Int32)), .unset, .unset, .unset] [])) (by first | rfl | (simp [entryFrame, mkF, argsToLocals, Value.category]; done)) ?_
  refine Go.st (T' := s₁) (g' := (mkF m 1 #[.val (.ref b), .val (.int (0 : Int32)), .val (.int (3 : Int32)), .unset, .unset, .unset] [(.int (3 : Int32))])) (fun _ zk => XS.iloadN X0.here hx rfl (hb hby d9_0) rfl zk) ?_
  obtain ⟨T1, h1, k1, X1, e1, E1, A1, st1⟩ := newP (aty := .byte) X0 hx hZ (w19 hw) e0 (g := (mkF m 1 #[.val (.ref b), .val (.int (0 : Int32)), .val (.int (3 : Int32)), .unset, .unset, .unset] [(.int (3 : Int32))])) rfl (hb hby d9_1) rfl (by decide) (cap := 3) (by decide) (by decide) (by decide) (by decide)
  obtain ⟨b1, g1⟩ : ∃ z, z = h0.size := ⟨_, rfl⟩
  rw [← g1] at A1 st1
  have V1 : Arv Z h1 b1 k1 .byte (3 : Int32) [(.int (0 : Int32)), (.int (0 : Int32)), (.int (0 : Int32))] (.int (0 : Int32)) := (Arv.new A1 (by decide)).pad (pad_rep [] (.int (0 : Int32)) 3)
  refine Go.st (T' := T1) (g' := (mkF m 3 #[.val (.ref b), .val (.int (0 : Int32)), .val (.int (3 : Int32)), .unset, .unset, .unset] [(.ref b1)])) (fun _ zk => st1 _ zk) ?_
  refine Go.st (T' := T1) (g' := (mkF m 4 #[.val (.ref b), .val (.int (0 : Int32)), .val (.int (3 : Int32)), .val (.ref b1), .unset, .unset] [])) (fun _ zk => XS.astoreN X1.here hx rfl (hb hby d9_3) rfl rfl (l' := #[.val (.ref b), .val (.int (0 : Int32)), .val (.int (3 : Int32)), .val (.ref b1), .unset, .unset]) rfl zk) ?_
  refine Go.st (T' := T1) (g' := (mkF m 5 #[.val (.ref b), .val (.int (0 : Int32)), .val (.int (3 : Int32)), .val (.ref b1), .unset, .unset] [(.ref b)])) (fun _ zk => XS.aloadN X1.here hx rfl (hb hby d9_4) rfl rfl zk) ?_
  refine Go.st (T' := T1) (g' := (mkF m 6 #[.val (.ref b), .val (.int (0 : Int32)), .val (.int (3 : Int32)), .val (.ref b1), .unset, .unset] [(.int (0 : Int32)), (.ref b)])) (fun _ zk => XS.iloadN X1.here hx rfl (hb hby d9_5) rfl zk) ?_
  refine Go.st (T' := T1) (g' := (mkF m 7 #[.val (.ref b), .val (.int (0 : Int32)), .val (.int (3 : Int32)), .val (.ref b1), .unset, .unset] [(.ref b1), (.int (0 : Int32)), (.ref b)])) (fun _ zk => XS.aloadN X1.here hx rfl (hb hby d9_6) rfl rfl zk) ?_
  refine Go.st (T' := T1) (g' := (mkF m 8 #[.val (.ref b), .val (.int (0 : Int32)), .val (.int (3 : Int32)), .val (.ref b1), .unset, .unset] [(.int (0 : Int32)), (.ref b1), (.int (0 : Int32)), (.ref b)])) (fun _ zk => XS.iconst X1.here hx rfl (hb hby d9_7) zk) ?_
  refine Go.st (T' := T1) (g' := (mkF m 9 #[.val (.ref b), .val (.int (0 : Int32)), .val (.int (3 : Int32)), .val (.ref b1), .unset, .unset] [(.int (3 : Int32)), (.int (0 : Int32)), (.ref b1), (.int (0 : Int32)), (.ref b)])) (fun _ zk => XS.iloadN X1.here hx rfl (hb hby d9_8) rfl zk) ?_
  have x2 : Ext h0 h1 := E1
  have f3 := VC.ext x2
  refine Go.callSt (y := (⟨"java/lang/StringUTF16", "compress", "([CI[BII)I"⟩ : MethodName)) X1 hx hZ hown e1 (w60 hw) (w61 hw) (w58 hw) (w62 hw) (by decide) (argsL := [(.ref b), (.int (0 : Int32)), (.ref b1), (.int (0 : Int32)), (.int (3 : Int32))]) (rest := []) (W := 0) (rm_cmp5_3 l Z a0 hw [] b b1 kC k1 c0 c1 c2 h1 n0 (Nat.le_trans Z0 E1.1) f3 V1 (ne_lt VC.lt (Nat.le_refl _) (Nat.le_of_eq g1.symm)) (Nat.le_trans Z0 (Nat.le_trans (Nat.le_refl _) (Nat.le_of_eq g1.symm))) p0 p1 p2) rfl (lenOf pd10 rfl) rfl (by rw [hml]; rfl) rfl (by show 2 * 0 + _ ≤ _; exact Nat.le_of_eq rfl) (by decide) (by decide) (by decide) (by decide) (hb hby d9_9) ?_
  intro v4 T4 h4 L4 X4 e4 q4
  obtain ⟨hv4, Nf4, K4, V4⟩ := q4
  subst hv4
  have N4 := Fr.app N0 Nf4
  show Go p.tables e below _ T4 (mkF m 12 #[.val (.ref b), .val (.int (0 : Int32)), .val (.int (3 : Int32)), .val (.ref b1), .unset, .unset] [(.int (3 : Int32))])
  refine Go.st (T' := T4) (g' := (mkF m 14 #[.val (.ref b), .val (.int (0 : Int32)), .val (.int (3 : Int32)), .val (.ref b1), .val (.int (3 : Int32)), .unset] [])) (fun _ zk => XS.istore X4.here hx rfl (hb hby d9_12) rfl (l' := #[.val (.ref b), .val (.int (0 : Int32)), .val (.int (3 : Int32)), .val (.ref b1), .val (.int (3 : Int32)), .unset]) rfl zk) ?_
  refine Go.st (T' := T4) (g' := (mkF m 16 #[.val (.ref b), .val (.int (0 : Int32)), .val (.int (3 : Int32)), .val (.ref b1), .val (.int (3 : Int32)), .unset] [(.int (3 : Int32))])) (fun _ zk => XS.iload X4.here hx rfl (hb hby d9_14) rfl zk) ?_
  refine Go.st (T' := T4) (g' := (mkF m 17 #[.val (.ref b), .val (.int (0 : Int32)), .val (.int (3 : Int32)), .val (.ref b1), .val (.int (3 : Int32)), .unset] [(.int (3 : Int32)), (.int (3 : Int32))])) (fun _ zk => XS.iloadN X4.here hx rfl (hb hby d9_16) rfl zk) ?_
  refine Go.st (T' := T4) (g' := (mkF m 57 #[.val (.ref b), .val (.int (0 : Int32)), .val (.int (3 : Int32)), .val (.ref b1), .val (.int (3 : Int32)), .unset] [])) (fun _ zk => XS.icmpYes X4.here hx rfl (pc0 := 17) (pc' := 57) rfl (hb hby d9_17) rfl (teq (rfl : (3 : Int32) = (3 : Int32))).1 (by decide) (by decide) zk) ?_
  refine Go.st (T' := T4) (g' := (mkF m 58 #[.val (.ref b), .val (.int (0 : Int32)), .val (.int (3 : Int32)), .val (.ref b1), .val (.int (3 : Int32)), .unset] [(.ref b1)])) (fun _ zk => XS.aloadN X4.here hx rfl (hb hby d9_57) rfl rfl zk) ?_
  have x5 : Ext h0 h4 := (x2.thenK K4 (allS (P := fun x => h0.size ≤ x) (Nat.le_of_eq g1.symm) all0))
  refine Go.retA X4 hx hlk hret rfl rfl (hb hby d9_58) (by decide) (by decide) e4 ?_
  exact ⟨_, _, rfl, N4, x5, (Nat.le_trans (Nat.le_refl _) (Nat.le_of_eq g1.symm)), V4⟩
def rr_codl_3 : Room := { frames := 0, cells := 0, slots := 0, locals := 0 }
set_option maxRecDepth 65536 in
set_option maxHeartbeats 40000000 in
theorem rm_codl_3 (l : Launch) (Z : State) (a0 : Array Value) (hw : ∀ d ∈ tables_1, d.before a0 Z = true) (ws : List Jvm.Cond) (t : Addr) (k : ClassId) (x0 x1 x2 : Int32) (h0 : Heap) (n0 : Nat) (Z0 : n0 ≤ h0.size) (VB : Arv Z h0 t k .byte (3 : Int32) [(.int x0), (.int x1), (.int x2)] (.int (0 : Int32))) :
    Con l Z (⟨"java/lang/StringUTF16", "coderFromArrayLen", "([BI)B"⟩ : MethodName) jdk_52_method_15_code 2 (some .byte) ws rr_codl_3 #[(.ref t), (.int (3 : Int32))] h0 (fun v h L => v = some (.int 0) ∧ Fr n0 L ∧ h = h0) := by
  refine Con.enter (plainFor_of_name pn9) ?_
  intro p e s m below meth c s₁ X0 hx hZ hby hml hret hlk hown hnm e0
  have N0 := Fr.nil n0
  refine Go.cast (g' := (mkF m 0 #[.val (.ref t), .val (.int (3 : Int32))] [])) (by first | rfl | (simp [entryFrame, mkF, argsToLocals, Value.category]; done)) ?_
  refine Go.st (T' := s₁) (g' := (mkF m 1 #[.val (.ref t), .val (.int (3 : Int32))] [(.int (3 : Int32))])) (fun _ zk => XS.iloadN X0.here hx rfl (hb hby d11_0) rfl zk) ?_
  refine Go.st (T' := s₁) (g' := (mkF m 2 #[.val (.ref t), .val (.int (3 : Int32))] [(.ref t), (.int (3 : Int32))])) (fun _ zk => XS.aloadN X0.here hx rfl (hb hby d11_1) rfl rfl zk) ?_
  refine Go.st (T' := s₁) (g' := (mkF m 3 #[.val (.ref t), .val (.int (3 : Int32))] [(.int (3 : Int32)), (.int (3 : Int32))])) (fun _ zk => lenV X0 hx hZ e0 VB (g := (mkF m 2 #[.val (.ref t), .val (.int (3 : Int32))] [(.ref t), (.int (3 : Int32))])) rfl (rest := [(.int (3 : Int32))]) rfl (hb hby d11_2) zk) ?_
  refine Go.st (T' := s₁) (g' := (mkF m 4 #[.val (.ref t), .val (.int (3 : Int32))] [(.int ((3 : Int32) - (3 : Int32)))])) (fun _ zk => XS.isub X0.here hx rfl (hb hby d11_3) rfl zk) ?_
  rw [show ((3 : Int32) - (3 : Int32)) = (0 : Int32) from by decide]
  refine Go.st (T' := s₁) (g' := (mkF m 6 #[.val (.ref t), .val (.int (3 : Int32))] [(.int (31 : Int32)), (.int (0 : Int32))])) (fun _ zk => XS.bipush X0.here hx rfl (hb hby d11_4) zk) ?_
  refine Go.st (T' := s₁) (g' := (mkF m 7 #[.val (.ref t), .val (.int (3 : Int32))] [(.int (((0 : Int32).toUInt32 >>> ((31 : Int32) &&& 31).toUInt32).toInt32))])) (fun _ zk => XS.iushr X0.here hx rfl (hb hby d11_6) rfl zk) ?_
  rw [show (((0 : Int32).toUInt32 >>> ((31 : Int32) &&& 31).toUInt32).toInt32) = (0 : Int32) from by decide]
  refine Go.st (T' := s₁) (g' := (mkF m 8 #[.val (.ref t), .val (.int (3 : Int32))] [(.int ((0 : Int32).toInt8.toInt32))])) (fun _ zk => XS.i2b X0.here hx rfl (hb hby d11_7) rfl zk) ?_
  rw [show ((0 : Int32).toInt8.toInt32) = (0 : Int32) from by decide]
  refine Go.retN X0 hx hlk hret rfl (by simp) (hb hby d11_8) (by decide) (by decide) e0 ?_
  exact ⟨rfl, N0, rfl⟩
def rr_init4_3 : Room := { frames := 2, cells := 1, slots := 3, locals := 35 }
set_option maxRecDepth 65536 in
set_option maxHeartbeats 40000000 in
theorem rm_init4_3 (l : Launch) (Z : State) (a0 : Array Value) (hw : ∀ d ∈ tables_1, d.before a0 Z = true) (ws : List Jvm.Cond) (a1 b : Addr) (kC : ClassId) (zc : Int32) (c0 c1 c2 : Int32) (h0 : Heap) (n0 : Nat) (Z0 : n0 ≤ h0.size) (O0 : Old Z n0 h0) (E0 : Exa Z h0 a1 "java/lang/String") (g0 : n0 ≤ a1) (C0 : Fld Z h0 a1 "java/lang/String" "coder" "B" (.int (0 : Int32))) (V0 : Fld Z h0 a1 "java/lang/String" "value" "[B" .null) (VC : Arv Z h0 b kC .char (3 : Int32) [(.int c0), (.int c1), (.int c2)] (.int (0 : Int32))) (CS : Sta Z Z.heap "java/lang/String" "COMPACT_STRINGS" "Z" (.int zc)) (hz : ¬ zc = 0) (p0 : ¬ (255 : Int32) < c0) (p1 : ¬ (255 : Int32) < c1) (p2 : ¬ (255 : Int32) < c2) :
    Con l Z (⟨"java/lang/String", "<init>", "([CIILjava/lang/Void;)V"⟩ : MethodName) jdk_42_method_149_code 6 none ws rr_init4_3 #[(.ref a1), (.ref b), (.int (0 : Int32)), (.int (3 : Int32)), .null] h0 (fun v h L => v = none ∧ Fr n0 L ∧ Keep h0 h [a1] ∧ Fld Z h a1 "java/lang/String" "coder" "B" (.int (0 : Int32)) ∧ ∃ (t : Addr) (k : ClassId), h0.size ≤ t ∧ Fld Z h a1 "java/lang/String" "value" "[B" (.ref t) ∧ Arv Z h t k .byte (3 : Int32) [(.int (c0.toInt8.toInt32)), (.int (c1.toInt8.toInt32)), (.int (c2.toInt8.toInt32))] (.int (0 : Int32))) := by
  refine Con.enter (plainFor_of_name pn2) ?_
  intro p e s m below meth c s₁ X0 hx hZ hby hml hret hlk hown hnm e0
  have N0 := Fr.nil n0
  refine Go.cast (g' := (mkF m 0 #[.val (.ref a1), .val (.ref b), .val (.int (0 : Int32)), .val (.int (3 : Int32)), .val .null, .unset] [])) (by first | rfl | (simp [entryFrame, mkF, argsToLocals, Value.category]; done)) ?_
  refine Go.st (T' := s₁) (g' := (mkF m 1 #[.val (.ref a1), .val (.ref b), .val (.int (0 : Int32)), .val (.int (3 : Int32)), .val .null, .unset] [(.ref a1)])) (fun _ zk => XS.aloadN X0.here hx rfl (hb hby d3_0) rfl rfl zk) ?_
  obtain ⟨T1, X1, e1, st1⟩ := initO X0 hx hZ hown (w15 hw) (w16 hw) (w17 hw) e0 (g := (mkF m 1 #[.val (.ref a1), .val (.ref b), .val (.int (0 : Int32)), .val (.int (3 : Int32)), .val .null, .unset] [(.ref a1)])) rfl (by rw [hml]; rfl) rfl (hb hby d3_1) (by decide) (W := 0) (by show 2 * 0 + _ ≤ _; exact Nat.le_of_eq rfl) (by decide)
  refine Go.st (T' := T1) (g' := (mkF m 4 #[.val (.ref a1), .val (.ref b), .val (.int (0 : Int32)), .val (.int (3 : Int32)), .val .null, .unset] [])) (fun _ zk => st1 _ zk) ?_
  refine Go.st (T' := T1) (g' := (mkF m 5 #[.val (.ref a1), .val (.ref b), .val (.int (0 : Int32)), .val (.int (3 : Int32)), .val .null, .unset] [(.int (3 : Int32))])) (fun _ zk => XS.iloadN X1.here hx rfl (hb hby d3_4) rfl zk) ?_
  refine Go.st (T' := T1) (g' := (mkF m 27 #[.val (.ref a1), .val (.ref b), .val (.int (0 : Int32)), .val (.int (3 : Int32)), .val .null, .unset] [])) (fun _ zk => XS.ifYes X1.here hx rfl (pc0 := 5) (pc' := 27) rfl (hb hby d3_5) rfl ((if0 _ _).trans (feq ((by decide) : ¬ ((3 : Int32) = (0 : Int32)))).2) (by decide) (by decide) zk) ?_
  obtain ⟨T2, X2, e2, st2⟩ := getS2 X1 hx hZ hown (host := "") (Or.inl (w55 hw)) Via.refl e1 (CS.ext O0.2) (g := (mkF m 27 #[.val (.ref a1), .val (.ref b), .val (.int (0 : Int32)), .val (.int (3 : Int32)), .val .null, .unset] [])) rfl (hb hby d3_27)
  refine Go.st (T' := T2) (g' := (mkF m 30 #[.val (.ref a1), .val (.ref b), .val (.int (0 : Int32)), .val (.int (3 : Int32)), .val .null, .unset] [(.int zc)])) (fun _ zk => st2 _ zk) ?_
  refine Go.st (T' := T2) (g' := (mkF m 33 #[.val (.ref a1), .val (.ref b), .val (.int (0 : Int32)), .val (.int (3 : Int32)), .val .null, .unset] [])) (fun _ zk => XS.ifNo X2.here hx rfl (hb hby d3_30) rfl ((if0 _ _).trans (feq (hz : ¬ (zc = (0 : Int32)))).1) zk) ?_
  refine Go.st (T' := T2) (g' := (mkF m 34 #[.val (.ref a1), .val (.ref b), .val (.int (0 : Int32)), .val (.int (3 : Int32)), .val .null, .unset] [(.ref b)])) (fun _ zk => XS.aloadN X2.here hx rfl (hb hby d3_33) rfl rfl zk) ?_
  refine Go.st (T' := T2) (g' := (mkF m 35 #[.val (.ref a1), .val (.ref b), .val (.int (0 : Int32)), .val (.int (3 : Int32)), .val .null, .unset] [(.int (0 : Int32)), (.ref b)])) (fun _ zk => XS.iloadN X2.here hx rfl (hb hby d3_34) rfl zk) ?_
  refine Go.st (T' := T2) (g' := (mkF m 36 #[.val (.ref a1), .val (.ref b), .val (.int (0 : Int32)), .val (.int (3 : Int32)), .val .null, .unset] [(.int (3 : Int32)), (.int (0 : Int32)), (.ref b)])) (fun _ zk => XS.iloadN X2.here hx rfl (hb hby d3_35) rfl zk) ?_
  refine Go.callSt (y := (⟨"java/lang/StringUTF16", "compress", "([CII)[B"⟩ : MethodName)) X2 hx hZ hown e2 (w56 hw) (w57 hw) (w58 hw) (w59 hw) (by decide) (argsL := [(.ref b), (.int (0 : Int32)), (.int (3 : Int32))]) (rest := []) (W := 0) (rm_cmp3_3 l Z a0 hw [] b kC c0 c1 c2 h0 n0 Z0 VC p0 p1 p2) rfl (lenOf pd11 rfl) rfl (by rw [hml]; rfl) rfl (by show 2 * 0 + _ ≤ _; exact Nat.le_of_eq rfl) (by decide) (by decide) (by decide) (by decide) (hb hby d3_36) ?_
  intro v3 T3 h3 L3 X3 e3 q3
  obtain ⟨t3, k3, hv3, Nf3, E3, ge3, V3⟩ := q3
  subst hv3
  have N3 := Fr.app N0 Nf3
  show Go p.tables e below _ T3 (mkF m 39 #[.val (.ref a1), .val (.ref b), .val (.int (0 : Int32)), .val (.int (3 : Int32)), .val .null, .unset] [(.ref t3)])
  refine Go.st (T' := T3) (g' := (mkF m 41 #[.val (.ref a1), .val (.ref b), .val (.int (0 : Int32)), .val (.int (3 : Int32)), .val .null, .val (.ref t3)] [])) (fun _ zk => XS.astore X3.here hx rfl (hb hby d3_39) rfl rfl (l' := #[.val (.ref a1), .val (.ref b), .val (.int (0 : Int32)), .val (.int (3 : Int32)), .val .null, .val (.ref t3)]) rfl zk) ?_
  refine Go.st (T' := T3) (g' := (mkF m 42 #[.val (.ref a1), .val (.ref b), .val (.int (0 : Int32)), .val (.int (3 : Int32)), .val .null, .val (.ref t3)] [(.ref a1)])) (fun _ zk => XS.aloadN X3.here hx rfl (hb hby d3_41) rfl rfl zk) ?_
  refine Go.st (T' := T3) (g' := (mkF m 44 #[.val (.ref a1), .val (.ref b), .val (.int (0 : Int32)), .val (.int (3 : Int32)), .val .null, .val (.ref t3)] [(.ref t3), (.ref a1)])) (fun _ zk => XS.aload X3.here hx rfl (hb hby d3_42) rfl rfl zk) ?_
  refine Go.st (T' := T3) (g' := (mkF m 45 #[.val (.ref a1), .val (.ref b), .val (.int (0 : Int32)), .val (.int (3 : Int32)), .val .null, .val (.ref t3)] [(.int (3 : Int32)), (.ref t3), (.ref a1)])) (fun _ zk => XS.iloadN X3.here hx rfl (hb hby d3_44) rfl zk) ?_
  refine Go.callSt (y := (⟨"java/lang/StringUTF16", "coderFromArrayLen", "([BI)B"⟩ : MethodName)) X3 hx hZ hown e3 (w63 hw) (w64 hw) (w58 hw) (w65 hw) (by decide) (argsL := [(.ref t3), (.int (3 : Int32))]) (rest := [(.ref a1)]) (W := 1) (rm_codl_3 l Z a0 hw [] t3 k3 (c0.toInt8.toInt32) (c1.toInt8.toInt32) (c2.toInt8.toInt32) h3 n0 (Nat.le_trans Z0 E3.1) V3) rfl (lenOf pd12 rfl) rfl (by rw [hml]; rfl) rfl (by show 2 * 0 + _ ≤ _; exact Nat.le_of_eq rfl) (by decide) (by decide) (by decide) (by decide) (hb hby d3_45) ?_
  intro v4 T4 h4 L4 X4 e4 q4
  obtain ⟨hv4, Nf4, hh4⟩ := q4
  subst hv4
  have E4 : T4.heap = h3 := e4.trans hh4
  have N4 := Fr.app N3 Nf4
  show Go p.tables e below _ T4 (mkF m 48 #[.val (.ref a1), .val (.ref b), .val (.int (0 : Int32)), .val (.int (3 : Int32)), .val .null, .val (.ref t3)] [(.int (0 : Int32)), (.ref a1)])
  have x6 : Ext h0 h3 := E3
  have f7 := C0.ext x6
  have f8 := E0.ext x6
  obtain ⟨T5, h5, X5, e5, W5, st5⟩ := putF X4 hx hZ hown (host := "") (Or.inl (w25 hw)) Via.refl E4 f7 f8 (Or.inr ⟨(w21 hw), rfl, hnm⟩) (w5 hw) (ty := .byte) (by decide) rfl rfl (g := (mkF m 48 #[.val (.ref a1), .val (.ref b), .val (.int (0 : Int32)), .val (.int (3 : Int32)), .val .null, .val (.ref t3)] [(.int (0 : Int32)), (.ref a1)])) rfl rfl (hb hby d3_48)
  have F5 := f7.same W5
  have N5 := Fr.snoc X5 N4 g0
  refine Go.st (T' := T5) (g' := (mkF m 51 #[.val (.ref a1), .val (.ref b), .val (.int (0 : Int32)), .val (.int (3 : Int32)), .val .null, .val (.ref t3)] [])) (fun _ zk => st5 _ zk) ?_
  refine Go.st (T' := T5) (g' := (mkF m 52 #[.val (.ref a1), .val (.ref b), .val (.int (0 : Int32)), .val (.int (3 : Int32)), .val .null, .val (.ref t3)] [(.ref a1)])) (fun _ zk => XS.aloadN X5.here hx rfl (hb hby d3_51) rfl rfl zk) ?_
  refine Go.st (T' := T5) (g' := (mkF m 54 #[.val (.ref a1), .val (.ref b), .val (.int (0 : Int32)), .val (.int (3 : Int32)), .val .null, .val (.ref t3)] [(.ref t3), (.ref a1)])) (fun _ zk => XS.aload X5.here hx rfl (hb hby d3_52) rfl rfl zk) ?_
  have f10 := ((V0.ext E3).other W5 (Or.inr (slot_ne (Or.inr (w20 hw)) (Or.inr (w21 hw)) (by decide) (t := (.array .byte)) (t' := .byte) (by decide) (by decide))))
  have f11 := (f8.wr W5)
  obtain ⟨T9, h9, X9, e9, W9, st9⟩ := putF X5 hx hZ hown (host := "") (Or.inl (w24 hw)) Via.refl e5 f10 f11 (Or.inr ⟨(w20 hw), rfl, hnm⟩) (w5 hw) (ty := (.array .byte)) (by decide) rfl rfl (g := (mkF m 54 #[.val (.ref a1), .val (.ref b), .val (.int (0 : Int32)), .val (.int (3 : Int32)), .val .null, .val (.ref t3)] [(.ref t3), (.ref a1)])) rfl rfl (hb hby d3_54)
  have F9 := f10.same W9
  have N9 := Fr.snoc X9 N5 g0
  refine Go.st (T' := T9) (g' := (mkF m 57 #[.val (.ref a1), .val (.ref b), .val (.int (0 : Int32)), .val (.int (3 : Int32)), .val .null, .val (.ref t3)] [])) (fun _ zk => st9 _ zk) ?_
  have f12 := (F5.other W9 (Or.inr (slot_ne (Or.inr (w21 hw)) (Or.inr (w20 hw)) (by decide) (t := .byte) (t' := (.array .byte)) (by decide) (by decide))))
  have f13 := ((V3.other W5 (Ne.symm (ne_lt E0.lt (Nat.le_refl _) ge3))).other W9 (Ne.symm (ne_lt E0.lt (Nat.le_refl _) ge3)))
  refine Go.retV X9 hx hlk hret (hb hby d3_57) (by decide) (by decide) e9 ?_
  exact ⟨rfl, N9, ((((Keep.refl h0 [a1]).ext E3).wr W5 (Or.inl (List.mem_of_getElem? (i := 0) rfl))).wr W9 (Or.inl (List.mem_of_getElem? (i := 0) rfl))), f12, t3, _, (Nat.le_trans (Nat.le_refl _) ge3), F9, f13⟩
def rr_init1_3 : Room := { frames := 3, cells := 1, slots := 3, locals := 52 }
set_option maxRecDepth 65536 in
set_option maxHeartbeats 40000000 in
theorem rm_init1_3 (l : Launch) (Z : State) (a0 : Array Value) (hw : ∀ d ∈ tables_1, d.before a0 Z = true) (ws : List Jvm.Cond) (a1 b : Addr) (kC : ClassId) (zc : Int32) (c0 c1 c2 : Int32) (h0 : Heap) (n0 : Nat) (Z0 : n0 ≤ h0.size) (O0 : Old Z n0 h0) (E0 : Exa Z h0 a1 "java/lang/String") (g0 : n0 ≤ a1) (C0 : Fld Z h0 a1 "java/lang/String" "coder" "B" (.int (0 : Int32))) (V0 : Fld Z h0 a1 "java/lang/String" "value" "[B" .null) (VC : Arv Z h0 b kC .char (3 : Int32) [(.int c0), (.int c1), (.int c2)] (.int (0 : Int32))) (CS : Sta Z Z.heap "java/lang/String" "COMPACT_STRINGS" "Z" (.int zc)) (hz : ¬ zc = 0) (p0 : ¬ (255 : Int32) < c0) (p1 : ¬ (255 : Int32) < c1) (p2 : ¬ (255 : Int32) < c2) :
    Con l Z (⟨"java/lang/String", "<init>", "([C)V"⟩ : MethodName) jdk_42_method_3_code 2 none ws rr_init1_3 #[(.ref a1), (.ref b)] h0 (fun v h L => v = none ∧ Fr n0 L ∧ Keep h0 h [a1] ∧ Fld Z h a1 "java/lang/String" "coder" "B" (.int (0 : Int32)) ∧ ∃ (t : Addr) (k : ClassId), h0.size ≤ t ∧ Fld Z h a1 "java/lang/String" "value" "[B" (.ref t) ∧ Arv Z h t k .byte (3 : Int32) [(.int (c0.toInt8.toInt32)), (.int (c1.toInt8.toInt32)), (.int (c2.toInt8.toInt32))] (.int (0 : Int32))) := by
  refine Con.enter (plainFor_of_name pn2) ?_
  intro p e s m below meth c s₁ X0 hx hZ hby hml hret hlk hown hnm e0
  have N0 := Fr.nil n0
  refine Go.cast (g' := (mkF m 0 #[.val (.ref a1), .val (.ref b)] [])) (by first | rfl | (simp [entryFrame, mkF, argsToLocals, Value.category]; done)) ?_
  refine Go.st (T' := s₁) (g' := (mkF m 1 #[.val (.ref a1), .val (.ref b)] [(.ref a1)])) (fun _ zk => XS.aloadN X0.here hx rfl (hb hby d2_0) rfl rfl zk) ?_
  refine Go.st (T' := s₁) (g' := (mkF m 2 #[.val (.ref a1), .val (.ref b)] [(.ref b), (.ref a1)])) (fun _ zk => XS.aloadN X0.here hx rfl (hb hby d2_1) rfl rfl zk) ?_
  refine Go.st (T' := s₁) (g' := (mkF m 3 #[.val (.ref a1), .val (.ref b)] [(.int (0 : Int32)), (.ref b), (.ref a1)])) (fun _ zk => XS.iconst X0.here hx rfl (hb hby d2_2) zk) ?_
  refine Go.st (T' := s₁) (g' := (mkF m 4 #[.val (.ref a1), .val (.ref b)] [(.ref b), (.int (0 : Int32)), (.ref b), (.ref a1)])) (fun _ zk => XS.aloadN X0.here hx rfl (hb hby d2_3) rfl rfl zk) ?_
  refine Go.st (T' := s₁) (g' := (mkF m 5 #[.val (.ref a1), .val (.ref b)] [(.int (3 : Int32)), (.int (0 : Int32)), (.ref b), (.ref a1)])) (fun _ zk => lenV X0 hx hZ e0 VC (g := (mkF m 4 #[.val (.ref a1), .val (.ref b)] [(.ref b), (.int (0 : Int32)), (.ref b), (.ref a1)])) rfl (rest := [(.int (0 : Int32)), (.ref b), (.ref a1)]) rfl (hb hby d2_4) zk) ?_
  refine Go.st (T' := s₁) (g' := (mkF m 6 #[.val (.ref a1), .val (.ref b)] [.null, (.int (3 : Int32)), (.int (0 : Int32)), (.ref b), (.ref a1)])) (fun _ zk => XS.aconstNull X0.here hx rfl (hb hby d2_5) zk) ?_
  refine Go.callSp (y := (⟨"java/lang/String", "<init>", "([CIILjava/lang/Void;)V"⟩ : MethodName)) (a := a1) X0 hx hZ hown e0 rfl (w11 hw) (w12 hw) (w6 hw) (w14 hw) (by decide) (argsL := [(.ref b), (.int (0 : Int32)), (.int (3 : Int32)), .null]) (rest := []) (W := 0) (rm_init4_3 l Z a0 hw [] a1 b kC zc c0 c1 c2 h0 n0 Z0 O0 E0 g0 C0 V0 VC CS hz p0 p1 p2) rfl (lenOf pd13 rfl) rfl (by rw [hml]; rfl) rfl (by show 2 * 0 + _ ≤ _; exact Nat.le_of_eq rfl) (by decide) (by decide) (by decide) (by decide) (hb hby d2_6) ?_
  intro v1 T1 h1 L1 X1 e1 q1
  obtain ⟨hv1, Nf1, K1, C1, t1, k1, ge1, F1, V1⟩ := q1
  subst hv1
  have N1 := Fr.app N0 Nf1
  show Go p.tables e below _ T1 (mkF m 9 #[.val (.ref a1), .val (.ref b)] [])
  refine Go.retV X1 hx hlk hret (hb hby d2_9) (by decide) (by decide) e1 ?_
  exact ⟨rfl, N1, ((Keep.refl h0 [a1]).trans K1 (allS (P := fun x => x ∈ [a1] ∨ h0.size ≤ x) (Or.inl (List.mem_of_getElem? (i := 0) rfl)) all0)), C1, t1, _, (Nat.le_trans (Nat.le_refl _) ge1), F1, V1⟩
theorem d3_8 : decode jdk_42_method_149_code 8 = .ok (.aload_n 0, 1) := by decide +kernel
theorem d3_9 : decode jdk_42_method_149_code 9 = .ok (.ldc 7, 2) := by decide +kernel
theorem d3_11 : decode jdk_42_method_149_code 11 = .ok (.getfield 9, 3) := by decide +kernel
theorem d3_14 : decode jdk_42_method_149_code 14 = .ok (.putfield 9, 3) := by decide +kernel
theorem d3_17 : decode jdk_42_method_149_code 17 = .ok (.aload_n 0, 1) := by decide +kernel
theorem d3_18 : decode jdk_42_method_149_code 18 = .ok (.ldc 7, 2) := by decide +kernel
theorem d3_20 : decode jdk_42_method_149_code 20 = .ok (.getfield 15, 3) := by decide +kernel
theorem d3_23 : decode jdk_42_method_149_code 23 = .ok (.putfield 15, 3) := by decide +kernel
theorem d3_26 : decode jdk_42_method_149_code 26 = .ok (.return_, 1) := by decide +kernel
def rr_init4_0 : Room := { frames := 1, cells := 4, slots := 8, locals := 12 }
set_option maxRecDepth 65536 in
set_option maxHeartbeats 40000000 in
theorem rm_init4_0 (l : Launch) (Z : State) (a0 : Array Value) (hw : ∀ d ∈ tables_1, d.before a0 Z = true) (ws : List Jvm.Cond) (a1 b : Addr) (kC : ClassId) (h0 : Heap) (n0 : Nat) (Z0 : n0 ≤ h0.size) (E0 : Exa Z h0 a1 "java/lang/String") (g0 : n0 ≤ a1) (C0 : Fld Z h0 a1 "java/lang/String" "coder" "B" (.int (0 : Int32))) (V0 : Fld Z h0 a1 "java/lang/String" "value" "[B" .null) (VC : Arv Z h0 b kC .char (0 : Int32) [] (.int (0 : Int32))) :
    ConS l Z EL0 (⟨"java/lang/String", "<init>", "([CIILjava/lang/Void;)V"⟩ : MethodName) jdk_42_method_149_code 6 none ws rr_init4_0 #[(.ref a1), (.ref b), (.int (0 : Int32)), (.int (0 : Int32)), .null] h0 [a1] (fun v h L => v = none ∧ Fr n0 L ∧ Keep h0 h [a1] ∧ Fld Z h a1 "java/lang/String" "coder" "B" (.int (0 : Int32)) ∧ ∃ (t : Addr) (k : ClassId), Fld Z h a1 "java/lang/String" "value" "[B" (.ref t) ∧ Arv Z h t k .byte (0 : Int32) [] (.int (0 : Int32))) := by
  refine ConS.enter (plainFor_of_name pn2) ?_
  intro p e s m below meth c s₁ X0 hx hZ hby hml hret hlk hown hnm e0 hS hA hsf
  have N0 := Fr.nil n0
  have hEL := hEL0 hw
  have hSt := hSt0 hw
  refine Go.cast (g' := (mkF m 0 #[.val (.ref a1), .val (.ref b), .val (.int (0 : Int32)), .val (.int (0 : Int32)), .val .null, .unset] [])) (by first | rfl | (simp [entryFrame, mkF, argsToLocals, Value.category]; done)) ?_
  refine Go.st (T' := s₁) (g' := (mkF m 1 #[.val (.ref a1), .val (.ref b), .val (.int (0 : Int32)), .val (.int (0 : Int32)), .val .null, .unset] [(.ref a1)])) (fun _ zk => XS.aloadN X0.here hx rfl (hb hby d3_0) rfl rfl zk) ?_
  obtain ⟨T1, X1, e1, st1⟩ := initO X0 hx hZ hown (w15 hw) (w16 hw) (w17 hw) e0 (g := (mkF m 1 #[.val (.ref a1), .val (.ref b), .val (.int (0 : Int32)), .val (.int (0 : Int32)), .val .null, .unset] [(.ref a1)])) rfl (by rw [hml]; rfl) rfl (hb hby d3_1) (by decide) (W := 0) (by show 2 * 0 + _ ≤ _; exact Nat.le_of_eq rfl) (by decide)
  refine Go.st (T' := T1) (g' := (mkF m 4 #[.val (.ref a1), .val (.ref b), .val (.int (0 : Int32)), .val (.int (0 : Int32)), .val .null, .unset] [])) (fun _ zk => st1 _ zk) ?_
  refine Go.st (T' := T1) (g' := (mkF m 5 #[.val (.ref a1), .val (.ref b), .val (.int (0 : Int32)), .val (.int (0 : Int32)), .val .null, .unset] [(.int (0 : Int32))])) (fun _ zk => XS.iloadN X1.here hx rfl (hb hby d3_4) rfl zk) ?_
  refine Go.st (T' := T1) (g' := (mkF m 8 #[.val (.ref a1), .val (.ref b), .val (.int (0 : Int32)), .val (.int (0 : Int32)), .val .null, .unset] [])) (fun _ zk => XS.ifNo X1.here hx rfl (hb hby d3_5) rfl ((if0 _ _).trans (teq (rfl : (0 : Int32) = (0 : Int32))).2) zk) ?_
  refine Go.st (T' := T1) (g' := (mkF m 9 #[.val (.ref a1), .val (.ref b), .val (.int (0 : Int32)), .val (.int (0 : Int32)), .val .null, .unset] [(.ref a1)])) (fun _ zk => XS.aloadN X1.here hx rfl (hb hby d3_8) rfl rfl zk) ?_
  obtain ⟨l2, T2, h2, kk2, lt2, kl2, X2, e2, E2, hS, hk2, hZ', hown, A2, C2, F2, V2, la2, lb2, cr2, -, sf2, st2⟩ := ldcCH X1 hx hZ hown (w18 hw) hSt e1 hS (Nat.zero_le _) hEL (by decide) hA.1 (vs := []) (z := (0 : Int32)) ⟨by decide, by decide⟩ (by decide) (by decide) (g := (mkF m 9 #[.val (.ref a1), .val (.ref b), .val (.int (0 : Int32)), .val (.int (0 : Int32)), .val .null, .unset] [(.ref a1)])) rfl (hb hby d3_9) (n := 0) (by decide) (by decide) (by decide) (by decide)
  have hZ : Z.Warmed39 T2.vm := hZ'
  have ca3 := hA.trans cr2
  have sf_4 := cr2.safe E0.lt (hsf a1 (List.mem_of_getElem? (i := 0) rfl))
  refine Go.st (T' := T2) (g' := (mkF m 11 #[.val (.ref a1), .val (.ref b), .val (.int (0 : Int32)), .val (.int (0 : Int32)), .val .null, .unset] [(.ref l2), (.ref a1)])) (fun _ zk => st2 _ zk) ?_
  obtain ⟨T5, X5, e5, st5⟩ := getF X2 hx hZ hown (host := "") (Or.inl (w24 hw)) Via.refl e2 F2 (g := (mkF m 11 #[.val (.ref a1), .val (.ref b), .val (.int (0 : Int32)), .val (.int (0 : Int32)), .val .null, .unset] [(.ref l2), (.ref a1)])) rfl rfl (hb hby d3_11)
  refine Go.st (T' := T5) (g' := (mkF m 14 #[.val (.ref a1), .val (.ref b), .val (.int (0 : Int32)), .val (.int (0 : Int32)), .val .null, .unset] [(.ref lt2), (.ref a1)])) (fun _ zk => st5 _ zk) ?_
  have x7 : Ext h0 h2 := E2
  have f8 := V0.ext x7
  have f9 := E0.ext x7
  obtain ⟨T6, h6, X6, e6, W6, st6⟩ := putF X5 hx hZ hown (host := "") (Or.inl (w24 hw)) Via.refl e5 f8 f9 (Or.inr ⟨(w20 hw), rfl, hnm⟩) (w5 hw) (ty := (.array .byte)) (by decide) rfl rfl (g := (mkF m 14 #[.val (.ref a1), .val (.ref b), .val (.int (0 : Int32)), .val (.int (0 : Int32)), .val .null, .unset] [(.ref lt2), (.ref a1)])) rfl rfl (hb hby d3_14)
  have F6 := f8.same W6
  have N6 := Fr.snoc X6 N0 g0
  refine Go.st (T' := T6) (g' := (mkF m 17 #[.val (.ref a1), .val (.ref b), .val (.int (0 : Int32)), .val (.int (0 : Int32)), .val .null, .unset] [])) (fun _ zk => st6 _ zk) ?_
  refine Go.st (T' := T6) (g' := (mkF m 18 #[.val (.ref a1), .val (.ref b), .val (.int (0 : Int32)), .val (.int (0 : Int32)), .val .null, .unset] [(.ref a1)])) (fun _ zk => XS.aloadN X6.here hx rfl (hb hby d3_17) rfl rfl zk) ?_
  have cr11 := (chrW ca3 W6 sf_4)
  have cr12 := ca3
  obtain ⟨l10, T10, h10, kk10, lt10, kl10, X10, e10, E10, hS, hk10, hZ', hown, A10, C10, F10, V10, la10, lb10, cr10, -, sf10, st10⟩ := ldcCH X6 hx hZ hown (w18 hw) hSt e6 hS (Nat.le_trans hk2 (Keep.of_wr W6).1) hEL (by decide) cr11.1 (vs := []) (z := (0 : Int32)) ⟨by decide, by decide⟩ (by decide) (by decide) (g := (mkF m 18 #[.val (.ref a1), .val (.ref b), .val (.int (0 : Int32)), .val (.int (0 : Int32)), .val .null, .unset] [(.ref a1)])) rfl (hb hby d3_18) (n := 0) (by decide) (by decide) (by decide) (by decide)
  have hZ : Z.Warmed39 T10.vm := hZ'
  have ca13 := cr11.trans cr10
  have sf_14 := cr10.safe (Nat.lt_of_lt_of_le E0.lt (Nat.le_trans E2.1 (Keep.of_wr W6).1)) (Safe.wr W6 sf_4 (cr12).1 sf_4)
  refine Go.st (T' := T10) (g' := (mkF m 20 #[.val (.ref a1), .val (.ref b), .val (.int (0 : Int32)), .val (.int (0 : Int32)), .val .null, .unset] [(.ref l10), (.ref a1)])) (fun _ zk => st10 _ zk) ?_
  obtain ⟨T15, X15, e15, st15⟩ := getF X10 hx hZ hown (host := "") (Or.inl (w25 hw)) Via.refl e10 C10 (g := (mkF m 20 #[.val (.ref a1), .val (.ref b), .val (.int (0 : Int32)), .val (.int (0 : Int32)), .val .null, .unset] [(.ref l10), (.ref a1)])) rfl rfl (hb hby d3_20)
  refine Go.st (T' := T15) (g' := (mkF m 23 #[.val (.ref a1), .val (.ref b), .val (.int (0 : Int32)), .val (.int (0 : Int32)), .val .null, .unset] [(.int (0 : Int32)), (.ref a1)])) (fun _ zk => st15 _ zk) ?_
  have f17 := (((C0.ext E2).other W6 (Or.inr (slot_ne (Or.inr (w21 hw)) (Or.inr (w20 hw)) (by decide) (t := .byte) (t' := (.array .byte)) (by decide) (by decide)))).ext E10)
  have f18 := ((f9.wr W6).ext E10)
  obtain ⟨T16, h16, X16, e16, W16, st16⟩ := putF X15 hx hZ hown (host := "") (Or.inl (w25 hw)) Via.refl e15 f17 f18 (Or.inr ⟨(w21 hw), rfl, hnm⟩) (w5 hw) (ty := .byte) (by decide) rfl rfl (g := (mkF m 23 #[.val (.ref a1), .val (.ref b), .val (.int (0 : Int32)), .val (.int (0 : Int32)), .val .null, .unset] [(.int (0 : Int32)), (.ref a1)])) rfl rfl (hb hby d3_23)
  have F16 := f17.same W16
  have N16 := Fr.snoc X16 N6 g0
  refine Go.st (T' := T16) (g' := (mkF m 26 #[.val (.ref a1), .val (.ref b), .val (.int (0 : Int32)), .val (.int (0 : Int32)), .val .null, .unset] [])) (fun _ zk => st16 _ zk) ?_
  have f19 := ((F6.ext E10).other W16 (Or.inr (slot_ne (Or.inr (w20 hw)) (Or.inr (w21 hw)) (by decide) (t := (.array .byte)) (t' := .byte) (by decide) (by decide))))
  have f20 := (((V2.other W6 (Ne.symm (sf2 a1 sf_4).2)).ext E10).other W16 (Ne.symm (sf2 a1 sf_4).2))
  have cr21 := (chrW ca13 W16 sf_14)
  refine Go.retVS X16 hx hlk hS (Nat.le_trans hk10 (Keep.of_wr W16).1) cr21 hZ hEL hret (hb hby d3_26) (by decide) (by decide) e16 ?_
  exact ⟨rfl, N16, (((((Keep.refl h0 [a1]).ext E2).wr W6 (Or.inl (List.mem_of_getElem? (i := 0) rfl))).ext E10).wr W16 (Or.inl (List.mem_of_getElem? (i := 0) rfl))), F16, lt2, _, f19, f20⟩
def rr_init1_0 : Room := { frames := 2, cells := 4, slots := 8, locals := 29 }
set_option maxRecDepth 65536 in
set_option maxHeartbeats 40000000 in
theorem rm_init1_0 (l : Launch) (Z : State) (a0 : Array Value) (hw : ∀ d ∈ tables_1, d.before a0 Z = true) (ws : List Jvm.Cond) (a1 b : Addr) (kC : ClassId) (h0 : Heap) (n0 : Nat) (Z0 : n0 ≤ h0.size) (E0 : Exa Z h0 a1 "java/lang/String") (g0 : n0 ≤ a1) (C0 : Fld Z h0 a1 "java/lang/String" "coder" "B" (.int (0 : Int32))) (V0 : Fld Z h0 a1 "java/lang/String" "value" "[B" .null) (VC : Arv Z h0 b kC .char (0 : Int32) [] (.int (0 : Int32))) :
    ConS l Z EL0 (⟨"java/lang/String", "<init>", "([C)V"⟩ : MethodName) jdk_42_method_3_code 2 none ws rr_init1_0 #[(.ref a1), (.ref b)] h0 [a1] (fun v h L => v = none ∧ Fr n0 L ∧ Keep h0 h [a1] ∧ Fld Z h a1 "java/lang/String" "coder" "B" (.int (0 : Int32)) ∧ ∃ (t : Addr) (k : ClassId), Fld Z h a1 "java/lang/String" "value" "[B" (.ref t) ∧ Arv Z h t k .byte (0 : Int32) [] (.int (0 : Int32))) := by
  refine ConS.enter (plainFor_of_name pn2) ?_
  intro p e s m below meth c s₁ X0 hx hZ hby hml hret hlk hown hnm e0 hS hA hsf
  have N0 := Fr.nil n0
  have hEL := hEL0 hw
  have hSt := hSt0 hw
  refine Go.cast (g' := (mkF m 0 #[.val (.ref a1), .val (.ref b)] [])) (by first | rfl | (simp [entryFrame, mkF, argsToLocals, Value.category]; done)) ?_
  refine Go.st (T' := s₁) (g' := (mkF m 1 #[.val (.ref a1), .val (.ref b)] [(.ref a1)])) (fun _ zk => XS.aloadN X0.here hx rfl (hb hby d2_0) rfl rfl zk) ?_
  refine Go.st (T' := s₁) (g' := (mkF m 2 #[.val (.ref a1), .val (.ref b)] [(.ref b), (.ref a1)])) (fun _ zk => XS.aloadN X0.here hx rfl (hb hby d2_1) rfl rfl zk) ?_
  refine Go.st (T' := s₁) (g' := (mkF m 3 #[.val (.ref a1), .val (.ref b)] [(.int (0 : Int32)), (.ref b), (.ref a1)])) (fun _ zk => XS.iconst X0.here hx rfl (hb hby d2_2) zk) ?_
  refine Go.st (T' := s₁) (g' := (mkF m 4 #[.val (.ref a1), .val (.ref b)] [(.ref b), (.int (0 : Int32)), (.ref b), (.ref a1)])) (fun _ zk => XS.aloadN X0.here hx rfl (hb hby d2_3) rfl rfl zk) ?_
  refine Go.st (T' := s₁) (g' := (mkF m 5 #[.val (.ref a1), .val (.ref b)] [(.int (0 : Int32)), (.int (0 : Int32)), (.ref b), (.ref a1)])) (fun _ zk => lenV X0 hx hZ e0 VC (g := (mkF m 4 #[.val (.ref a1), .val (.ref b)] [(.ref b), (.int (0 : Int32)), (.ref b), (.ref a1)])) rfl (rest := [(.int (0 : Int32)), (.ref b), (.ref a1)]) rfl (hb hby d2_4) zk) ?_
  refine Go.st (T' := s₁) (g' := (mkF m 6 #[.val (.ref a1), .val (.ref b)] [.null, (.int (0 : Int32)), (.int (0 : Int32)), (.ref b), (.ref a1)])) (fun _ zk => XS.aconstNull X0.here hx rfl (hb hby d2_5) zk) ?_
  refine Go.callSpS (y := (⟨"java/lang/String", "<init>", "([CIILjava/lang/Void;)V"⟩ : MethodName)) (a := a1) X0 hx hZ hown e0 hEL hA.1 hS (Nat.zero_le _) rfl (w11 hw) (w12 hw) (w6 hw) (w14 hw) (by decide) (argsL := [(.ref b), (.int (0 : Int32)), (.int (0 : Int32)), .null]) (rest := []) (W := 0) (rm_init4_0 l Z a0 hw [] a1 b kC h0 n0 Z0 E0 g0 C0 V0 VC) (allS (P := fun x => x < h0.size ∧ Safe Z EL0 s.vm h0 x) ⟨E0.lt, (hsf a1 (List.mem_of_getElem? (i := 0) rfl))⟩ all0) rfl (lenOf pd13 rfl) rfl (by rw [hml]; rfl) rfl (by show 2 * 0 + _ ≤ _; exact Nat.le_of_eq rfl) (by decide) (by decide) (by decide) (by decide) (hb hby d2_6) ?_
  intro v1 T1 h1 L1 X1 e1 q1 hS hZ hown cr1
  obtain ⟨hv1, Nf1, K1, C1, t1, k1, F1, V1⟩ := q1
  subst hv1
  have N1 := Fr.app N0 Nf1
  have ca2 := hA.trans cr1
  show Go p.tables e below _ T1 (mkF m 9 #[.val (.ref a1), .val (.ref b)] [])
  refine Go.retVS X1 hx hlk hS (Nat.le_refl _) ca2 hZ hEL hret (hb hby d2_9) (by decide) (by decide) e1 ?_
  exact ⟨rfl, N1, ((Keep.refl h0 [a1]).trans K1 (allS (P := fun x => x ∈ [a1] ∨ h0.size ≤ x) (Or.inl (List.mem_of_getElem? (i := 0) rfl)) all0)), C1, t1, _, F1, V1⟩
theorem d1_0 : decode method_2_code 0 = .ok (.iload_n 0, 1) := by decide +kernel
theorem d1_1 : decode method_2_code 1 = .ok (.ifCond .ne 14, 3) := by decide +kernel
theorem d1_4 : decode method_2_code 4 = .ok (.new 7, 3) := by decide +kernel
theorem w4 {a0 : Array Value} {Z : State} (hw : ∀ d ∈ tables_1, d.before a0 Z = true) : ((Jvm.Cond.classLink "com/example/patience/patience/language/VariableEqualsPinLaw" (7 : Nat) "java/lang/String")).before a0 Z = true := hw _ (List.mem_of_getElem? (i := 4) rfl)
theorem d1_7 : decode method_2_code 7 = .ok (.dup, 1) := by decide +kernel
theorem d1_8 : decode method_2_code 8 = .ok (.iconst 0, 1) := by decide +kernel
theorem d1_9 : decode method_2_code 9 = .ok (.newarray .char, 2) := by decide +kernel
theorem w7 {a0 : Array Value} {Z : State} (hw : ∀ d ∈ tables_1, d.before a0 Z = true) : ((Jvm.Cond.arrayClass Jvm.ClassFile.FieldType.char)).before a0 Z = true := hw _ (List.mem_of_getElem? (i := 7) rfl)
theorem w10 {a0 : Array Value} {Z : State} (hw : ∀ d ∈ tables_1, d.before a0 Z = true) : ((Jvm.Cond.code ({ cls := "java/lang/String", name := "<init>", desc := "([C)V" } : Jvm.MethodName) jdk_42_method_3_code (2 : Nat) (Option.none : Option Jvm.ClassFile.FieldType))).before a0 Z = true := hw _ (List.mem_of_getElem? (i := 10) rfl)
theorem pd14 : parseMethodDescriptor "([C)V" = some ⟨[(.array .char)], none⟩ := by decide +kernel
theorem d1_11 : decode method_2_code 11 = .ok (.invokespecial 9, 3) := by decide +kernel
theorem w8 {a0 : Array Value} {Z : State} (hw : ∀ d ∈ tables_1, d.before a0 Z = true) : ((Jvm.Cond.methodLink "com/example/patience/patience/language/VariableEqualsPinLaw" (9 : Nat) ({ cls := "java/lang/String", name := "<init>", desc := "([C)V" } : Jvm.MethodName))).before a0 Z = true := hw _ (List.mem_of_getElem? (i := 8) rfl)
theorem w9 {a0 : Array Value} {Z : State} (hw : ∀ d ∈ tables_1, d.before a0 Z = true) : ((Jvm.Cond.instanceMethod ({ cls := "java/lang/String", name := "<init>", desc := "([C)V" } : Jvm.MethodName))).before a0 Z = true := hw _ (List.mem_of_getElem? (i := 9) rfl)
theorem d1_14 : decode method_2_code 14 = .ok (.areturn, 1) := by decide +kernel
theorem d1_15 : decode method_2_code 15 = .ok (.iload_n 0, 1) := by decide +kernel
theorem d1_16 : decode method_2_code 16 = .ok (.iconst 1, 1) := by decide +kernel
theorem d1_17 : decode method_2_code 17 = .ok (.if_icmp .ne 18, 3) := by decide +kernel
theorem d1_20 : decode method_2_code 20 = .ok (.new 7, 3) := by decide +kernel
theorem d1_23 : decode method_2_code 23 = .ok (.dup, 1) := by decide +kernel
theorem d1_24 : decode method_2_code 24 = .ok (.iconst 1, 1) := by decide +kernel
theorem d1_25 : decode method_2_code 25 = .ok (.newarray .char, 2) := by decide +kernel
theorem d1_27 : decode method_2_code 27 = .ok (.dup, 1) := by decide +kernel
theorem d1_28 : decode method_2_code 28 = .ok (.iconst 0, 1) := by decide +kernel
theorem d1_29 : decode method_2_code 29 = .ok (.iload_n 1, 1) := by decide +kernel
theorem d1_30 : decode method_2_code 30 = .ok (.castore, 1) := by decide +kernel
theorem d1_31 : decode method_2_code 31 = .ok (.invokespecial 9, 3) := by decide +kernel
theorem d1_34 : decode method_2_code 34 = .ok (.areturn, 1) := by decide +kernel
theorem d1_35 : decode method_2_code 35 = .ok (.iload_n 0, 1) := by decide +kernel
theorem d1_36 : decode method_2_code 36 = .ok (.iconst 2, 1) := by decide +kernel
theorem d1_37 : decode method_2_code 37 = .ok (.if_icmp .ne 22, 3) := by decide +kernel
theorem d1_40 : decode method_2_code 40 = .ok (.new 7, 3) := by decide +kernel
theorem d1_43 : decode method_2_code 43 = .ok (.dup, 1) := by decide +kernel
theorem d1_44 : decode method_2_code 44 = .ok (.iconst 2, 1) := by decide +kernel
theorem d1_45 : decode method_2_code 45 = .ok (.newarray .char, 2) := by decide +kernel
theorem d1_47 : decode method_2_code 47 = .ok (.dup, 1) := by decide +kernel
theorem d1_48 : decode method_2_code 48 = .ok (.iconst 0, 1) := by decide +kernel
theorem d1_49 : decode method_2_code 49 = .ok (.iload_n 1, 1) := by decide +kernel
theorem d1_50 : decode method_2_code 50 = .ok (.castore, 1) := by decide +kernel
theorem d1_51 : decode method_2_code 51 = .ok (.dup, 1) := by decide +kernel
theorem d1_52 : decode method_2_code 52 = .ok (.iconst 1, 1) := by decide +kernel
theorem d1_53 : decode method_2_code 53 = .ok (.iload_n 2, 1) := by decide +kernel
theorem d1_54 : decode method_2_code 54 = .ok (.castore, 1) := by decide +kernel
theorem d1_55 : decode method_2_code 55 = .ok (.invokespecial 9, 3) := by decide +kernel
theorem d1_58 : decode method_2_code 58 = .ok (.areturn, 1) := by decide +kernel
theorem d1_59 : decode method_2_code 59 = .ok (.new 7, 3) := by decide +kernel
theorem d1_62 : decode method_2_code 62 = .ok (.dup, 1) := by decide +kernel
theorem d1_63 : decode method_2_code 63 = .ok (.iconst 3, 1) := by decide +kernel
theorem d1_64 : decode method_2_code 64 = .ok (.newarray .char, 2) := by decide +kernel
theorem d1_66 : decode method_2_code 66 = .ok (.dup, 1) := by decide +kernel
theorem d1_67 : decode method_2_code 67 = .ok (.iconst 0, 1) := by decide +kernel
theorem d1_68 : decode method_2_code 68 = .ok (.iload_n 1, 1) := by decide +kernel
theorem d1_69 : decode method_2_code 69 = .ok (.castore, 1) := by decide +kernel
theorem d1_70 : decode method_2_code 70 = .ok (.dup, 1) := by decide +kernel
theorem d1_71 : decode method_2_code 71 = .ok (.iconst 1, 1) := by decide +kernel
theorem d1_72 : decode method_2_code 72 = .ok (.iload_n 2, 1) := by decide +kernel
theorem d1_73 : decode method_2_code 73 = .ok (.castore, 1) := by decide +kernel
theorem d1_74 : decode method_2_code 74 = .ok (.dup, 1) := by decide +kernel
theorem d1_75 : decode method_2_code 75 = .ok (.iconst 2, 1) := by decide +kernel
theorem d1_76 : decode method_2_code 76 = .ok (.iload_n 3, 1) := by decide +kernel
theorem d1_77 : decode method_2_code 77 = .ok (.castore, 1) := by decide +kernel
theorem d1_78 : decode method_2_code 78 = .ok (.invokespecial 9, 3) := by decide +kernel
theorem d1_81 : decode method_2_code 81 = .ok (.areturn, 1) := by decide +kernel
def rr_mk : Room := { frames := 4, cells := 6, slots := 12, locals := 66 }
theorem pn15 : plainName "com/example/patience/patience/language/VariableEqualsPinLaw" = true := by first | (simp [plainName, overriddenIn]; done) | decide +kernel
set_option maxRecDepth 65536 in
set_option maxHeartbeats 40000000 in
theorem rm_mk (l : Launch) (Z : State) (a0 : Array Value) (hw : ∀ d ∈ tables_1, d.before a0 Z = true) (ws : List Jvm.Cond) (n c0 c1 c2 zc : Int32) (h0 : Heap) (n0 : Nat) (Z0 : n0 ≤ h0.size) (O0 : Old Z n0 h0) (CS : Sta Z Z.heap "java/lang/String" "COMPACT_STRINGS" "Z" (.int zc)) (hz : ¬ zc = 0) (hq0 : 0 ≤ c0.toInt ∧ c0.toInt ≤ 255) (hq1 : 0 ≤ c1.toInt ∧ c1.toInt ≤ 255) (hq2 : 0 ≤ c2.toInt ∧ c2.toInt ≤ 255) :
    ConS l Z EL0 (⟨"com/example/patience/patience/language/VariableEqualsPinLaw", "mk", "(ICCC)Ljava/lang/String;"⟩ : MethodName) method_2_code 4 (some (.object "java/lang/String")) ws rr_mk #[(.int n), (.int c0), (.int c1), (.int c2)] h0 [] (fun v h L => ∃ a : Addr, v = some (.ref a) ∧ Fr n0 L ∧ Ext h0 h ∧ StrB Z h a 0 (strb n c0 c1 c2)) := by
  refine ConS.enter (plainFor_of_name pn15) ?_
  intro p e s m below meth c s₁ X0 hx hZ hby hml hret hlk hown hnm e0 hS hA hsf
  have N0 := Fr.nil n0
  have hEL := hEL0 hw
  have hSt := hSt0 hw
  refine Go.cast (g' := (mkF m 0 #[.val (.int n), .val (.int c0), .val (.int c1), .val (.int c2)] [])) (by first | rfl | (simp [entryFrame, mkF, argsToLocals, Value.category]; done)) ?_
  refine Go.st (T' := s₁) (g' := (mkF m 1 #[.val (.int n), .val (.int c0), .val (.int c1), .val (.int c2)] [(.int n)])) (fun _ zk => XS.iloadN X0.here hx rfl (hb hby d1_0) rfl zk) ?_
  by_cases hc1 : n = (0 : Int32)
  · refine Go.st (T' := s₁) (g' := (mkF m 4 #[.val (.int n), .val (.int c0), .val (.int c1), .val (.int c2)] [])) (fun _ zk => XS.ifNo X0.here hx rfl (hb hby d1_1) rfl ((if0 _ _).trans (teq hc1).2) zk) ?_
    obtain ⟨T1, h1, X1, e1, E1, A1, D1, -, st1⟩ := newO X0 hx hZ hown (w4 hw) (w5 hw) (w6 hw) e0 (g := (mkF m 4 #[.val (.int n), .val (.int c0), .val (.int c1), .val (.int c2)] [])) rfl (hb hby d1_4) (by decide) (by decide)
    obtain ⟨b1, g1⟩ : ∃ z, z = h0.size := ⟨_, rfl⟩
    rw [← g1] at A1 D1 st1
    have F1_value : Fld Z h1 b1 "java/lang/String" "value" "[B" .null := D1 (Or.inr (w20 hw)) (ty := (.array .byte)) (by decide)
    have F1_coder : Fld Z h1 b1 "java/lang/String" "coder" "B" (.int (0 : Int32)) := D1 (Or.inr (w21 hw)) (ty := .byte) (by decide)
    refine Go.st (T' := T1) (g' := (mkF m 7 #[.val (.int n), .val (.int c0), .val (.int c1), .val (.int c2)] [(.ref b1)])) (fun _ zk => st1 _ zk) ?_
    refine Go.st (T' := T1) (g' := (mkF m 8 #[.val (.int n), .val (.int c0), .val (.int c1), .val (.int c2)] [(.ref b1), (.ref b1)])) (fun _ zk => XS.dup X1.here hx rfl (hb hby d1_7) rfl rfl zk) ?_
    refine Go.st (T' := T1) (g' := (mkF m 9 #[.val (.int n), .val (.int c0), .val (.int c1), .val (.int c2)] [(.int (0 : Int32)), (.ref b1), (.ref b1)])) (fun _ zk => XS.iconst X1.here hx rfl (hb hby d1_8) zk) ?_
    obtain ⟨T2, h2, k2, X2, e2, E2, A2, st2⟩ := newP (aty := .char) X1 hx hZ (w7 hw) e1 (g := (mkF m 9 #[.val (.int n), .val (.int c0), .val (.int c1), .val (.int c2)] [(.int (0 : Int32)), (.ref b1), (.ref b1)])) rfl (hb hby d1_9) rfl (by decide) (cap := 0) (by decide) (by decide) (by decide) (by decide)
    obtain ⟨b2, g2⟩ : ∃ z, z = h1.size := ⟨_, rfl⟩
    rw [← g2] at A2 st2
    have V2 : Arv Z h2 b2 k2 .char (0 : Int32) [] (.int (0 : Int32)) := (Arv.new A2 (by decide)).pad (pad_rep [] (.int (0 : Int32)) 0)
    refine Go.st (T' := T2) (g' := (mkF m 11 #[.val (.int n), .val (.int c0), .val (.int c1), .val (.int c2)] [(.ref b2), (.ref b1), (.ref b1)])) (fun _ zk => st2 _ zk) ?_
    have x3 : Ext h1 h2 := E2
    have f4 := A1.ext x3
    have f5 := F1_coder.ext x3
    have f6 := F1_value.ext x3
    have cr8 := (chrE hA E1)
    have cr9 := (chrE (chrE hA E1) E2)
    refine Go.callSpS (y := (⟨"java/lang/String", "<init>", "([C)V"⟩ : MethodName)) (a := b1) X2 hx hZ hown e2 hEL cr9.1 hS (Nat.le_trans (Nat.zero_le _) (Nat.le_trans E1.1 E2.1)) rfl (w8 hw) (w9 hw) (w6 hw) (w10 hw) (by decide) (argsL := [(.ref b2)]) (rest := [(.ref b1)]) (W := 1) (rm_init1_0 l Z a0 hw [] b1 b2 k2 h2 n0 (Nat.le_trans Z0 (Nat.le_trans E1.1 E2.1)) f4 (Nat.le_trans Z0 (Nat.le_trans (Nat.le_refl _) (Nat.le_of_eq g1.symm))) f5 f6 V2) (allS (P := fun x => x < h2.size ∧ Safe Z EL0 s.vm h2 x) ⟨(Nat.lt_of_lt_of_le A1.lt E2.1), (Safe.ext E2 (cr8).1 (Safe.ext E1 (hA).1 (Safe.new (Nat.le_of_eq g1.symm))))⟩ all0) rfl (lenOf pd14 rfl) rfl (by rw [hml]; rfl) rfl (by show 2 * 0 + _ ≤ _; exact Nat.le_of_eq rfl) (by decide) (by decide) (by decide) (by decide) (hb hby d1_11) ?_
    intro v7 T7 h7 L7 X7 e7 q7 hS hZ hown cr7
    obtain ⟨hv7, Nf7, K7, C7, t7, k7, F7, V7⟩ := q7
    subst hv7
    have N7 := Fr.app N0 Nf7
    have ca10 := cr9.trans cr7
    show Go p.tables e below _ T7 (mkF m 14 #[.val (.int n), .val (.int c0), .val (.int c1), .val (.int c2)] [(.ref b1)])
    have x11 : Ext h0 h7 := ((E1.tr E2).thenK K7 (allS (P := fun x => h0.size ≤ x) (Nat.le_of_eq g1.symm) all0))
    have f12 := (f4.keep K7)
    refine Go.retAS X7 hx hlk hS (Nat.le_refl _) ca10 hZ hEL hret rfl rfl (hb hby d1_14) (by decide) (by decide) e7 ?_
    refine ⟨_, rfl, N7, x11, ?_⟩
    have hsb : strb n c0 c1 c2 = [] := by simp [strb, hc1]
    rw [hsb]
    exact ⟨_, _, f12, C7, F7, V7⟩
  · refine Go.st (T' := s₁) (g' := (mkF m 15 #[.val (.int n), .val (.int c0), .val (.int c1), .val (.int c2)] [])) (fun _ zk => XS.ifYes X0.here hx rfl (pc0 := 1) (pc' := 15) rfl (hb hby d1_1) rfl ((if0 _ _).trans (feq hc1).2) (by decide) (by decide) zk) ?_
    refine Go.st (T' := s₁) (g' := (mkF m 16 #[.val (.int n), .val (.int c0), .val (.int c1), .val (.int c2)] [(.int n)])) (fun _ zk => XS.iloadN X0.here hx rfl (hb hby d1_15) rfl zk) ?_
    refine Go.st (T' := s₁) (g' := (mkF m 17 #[.val (.int n), .val (.int c0), .val (.int c1), .val (.int c2)] [(.int (1 : Int32)), (.int n)])) (fun _ zk => XS.iconst X0.here hx rfl (hb hby d1_16) zk) ?_
    by_cases hc17 : n = (1 : Int32)
    · refine Go.st (T' := s₁) (g' := (mkF m 20 #[.val (.int n), .val (.int c0), .val (.int c1), .val (.int c2)] [])) (fun _ zk => XS.icmpNo X0.here hx rfl (hb hby d1_17) rfl (teq hc17).2 zk) ?_
      obtain ⟨T13, h13, X13, e13, E13, A13, D13, -, st13⟩ := newO X0 hx hZ hown (w4 hw) (w5 hw) (w6 hw) e0 (g := (mkF m 20 #[.val (.int n), .val (.int c0), .val (.int c1), .val (.int c2)] [])) rfl (hb hby d1_20) (by decide) (by decide)
      obtain ⟨b13, g13⟩ : ∃ z, z = h0.size := ⟨_, rfl⟩
      rw [← g13] at A13 D13 st13
      have F13_value : Fld Z h13 b13 "java/lang/String" "value" "[B" .null := D13 (Or.inr (w20 hw)) (ty := (.array .byte)) (by decide)
      have F13_coder : Fld Z h13 b13 "java/lang/String" "coder" "B" (.int (0 : Int32)) := D13 (Or.inr (w21 hw)) (ty := .byte) (by decide)
      refine Go.st (T' := T13) (g' := (mkF m 23 #[.val (.int n), .val (.int c0), .val (.int c1), .val (.int c2)] [(.ref b13)])) (fun _ zk => st13 _ zk) ?_
      refine Go.st (T' := T13) (g' := (mkF m 24 #[.val (.int n), .val (.int c0), .val (.int c1), .val (.int c2)] [(.ref b13), (.ref b13)])) (fun _ zk => XS.dup X13.here hx rfl (hb hby d1_23) rfl rfl zk) ?_
      refine Go.st (T' := T13) (g' := (mkF m 25 #[.val (.int n), .val (.int c0), .val (.int c1), .val (.int c2)] [(.int (1 : Int32)), (.ref b13), (.ref b13)])) (fun _ zk => XS.iconst X13.here hx rfl (hb hby d1_24) zk) ?_
      obtain ⟨T14, h14, k14, X14, e14, E14, A14, st14⟩ := newP (aty := .char) X13 hx hZ (w7 hw) e13 (g := (mkF m 25 #[.val (.int n), .val (.int c0), .val (.int c1), .val (.int c2)] [(.int (1 : Int32)), (.ref b13), (.ref b13)])) rfl (hb hby d1_25) rfl (by decide) (cap := 1) (by decide) (by decide) (by decide) (by decide)
      obtain ⟨b14, g14⟩ : ∃ z, z = h13.size := ⟨_, rfl⟩
      rw [← g14] at A14 st14
      have V14 : Arv Z h14 b14 k14 .char (1 : Int32) [(.int (0 : Int32))] (.int (0 : Int32)) := (Arv.new A14 (by decide)).pad (pad_rep [] (.int (0 : Int32)) 1)
      refine Go.st (T' := T14) (g' := (mkF m 27 #[.val (.int n), .val (.int c0), .val (.int c1), .val (.int c2)] [(.ref b14), (.ref b13), (.ref b13)])) (fun _ zk => st14 _ zk) ?_
      refine Go.st (T' := T14) (g' := (mkF m 28 #[.val (.int n), .val (.int c0), .val (.int c1), .val (.int c2)] [(.ref b14), (.ref b14), (.ref b13), (.ref b13)])) (fun _ zk => XS.dup X14.here hx rfl (hb hby d1_27) rfl rfl zk) ?_
      refine Go.st (T' := T14) (g' := (mkF m 29 #[.val (.int n), .val (.int c0), .val (.int c1), .val (.int c2)] [(.int (0 : Int32)), (.ref b14), (.ref b14), (.ref b13), (.ref b13)])) (fun _ zk => XS.iconst X14.here hx rfl (hb hby d1_28) zk) ?_
      refine Go.st (T' := T14) (g' := (mkF m 30 #[.val (.int n), .val (.int c0), .val (.int c1), .val (.int c2)] [(.int c0), (.int (0 : Int32)), (.ref b14), (.ref b14), (.ref b13), (.ref b13)])) (fun _ zk => XS.iloadN X14.here hx rfl (hb hby d1_29) rfl zk) ?_
      obtain ⟨T15, h15, X15, e15, W15, V15, st15⟩ := stCV X14 hx hZ e14 V14 (j := (0 : Int32)) (i := 0) (by decide) rfl (Nat.le_of_ble_eq_true rfl) (g := (mkF m 30 #[.val (.int n), .val (.int c0), .val (.int c1), .val (.int c2)] [(.int c0), (.int (0 : Int32)), (.ref b14), (.ref b14), (.ref b13), (.ref b13)])) rfl rfl (hb hby d1_30)
      rw [nar_cid (x := c0) ⟨hq0.1, by omega⟩] at V15
      have V15' : Arv Z h15 b14 k14 .char (1 : Int32) [(.int c0)] (.int (0 : Int32)) := V15
      have N15 := Fr.snoc X15 N0 (Nat.le_trans Z0 (Nat.le_trans E13.1 (Nat.le_of_eq g14.symm)))
      refine Go.st (T' := T15) (g' := (mkF m 31 #[.val (.int n), .val (.int c0), .val (.int c1), .val (.int c2)] [(.ref b14), (.ref b13), (.ref b13)])) (fun _ zk => st15 _ zk) ?_
      have x16 : Ext h13 h15 := (E14.thenW W15 (Nat.le_of_eq g14.symm))
      have f17 := A13.ext x16
      have f18 := F13_coder.ext x16
      have f19 := F13_value.ext x16
      have x21 : Ext h0 h15 := ((E13.tr E14).thenW W15 (Nat.le_trans E13.1 (Nat.le_of_eq g14.symm)))
      have f22 := O0.ext x21
      refine Go.callSp (y := (⟨"java/lang/String", "<init>", "([C)V"⟩ : MethodName)) (a := b13) X15 hx hZ hown e15 rfl (w8 hw) (w9 hw) (w6 hw) (w10 hw) (by decide) (argsL := [(.ref b14)]) (rest := [(.ref b13)]) (W := 1) (rm_init1_1 l Z a0 hw [] b13 b14 k14 zc c0 h15 n0 (Nat.le_trans Z0 (Nat.le_trans (Nat.le_trans E13.1 E14.1) (Keep.of_wr W15).1)) f22 f17 (Nat.le_trans Z0 (Nat.le_trans (Nat.le_refl _) (Nat.le_of_eq g13.symm))) f18 f19 V15' CS hz (le255 hq0)) rfl (lenOf pd14 rfl) rfl (by rw [hml]; rfl) rfl (by show 2 * 0 + _ ≤ _; exact Nat.le_of_eq rfl) (by decide) (by decide) (by decide) (by decide) (hb hby d1_31) ?_
      intro v20 T20 h20 L20 X20 e20 q20
      obtain ⟨hv20, Nf20, K20, C20, t20, k20, ge20, F20, V20⟩ := q20
      subst hv20
      have N20 := Fr.app N15 Nf20
      show Go p.tables e below _ T20 (mkF m 34 #[.val (.int n), .val (.int c0), .val (.int c1), .val (.int c2)] [(.ref b13)])
      have x23 : Ext h0 h20 := (x21.thenK K20 (allS (P := fun x => h0.size ≤ x) (Nat.le_of_eq g13.symm) all0))
      have f24 := (f17.keep K20)
      have cr25 := (chrE hA E13)
      have cr26 := (chrE (chrE hA E13) E14)
      have cr27 := (chrK (chrW (chrE (chrE hA E13) E14) W15 (Safe.ext E14 (cr25).1 (Safe.new (Nat.le_of_eq g14.symm)))) K20 (sfS (Safe.wr W15 (Safe.ext E14 (cr25).1 (Safe.new (Nat.le_of_eq g14.symm))) (cr26).1 (Safe.ext E14 (cr25).1 (Safe.ext E13 (hA).1 (Safe.new (Nat.le_of_eq g13.symm))))) sf0))
      refine Go.retAS X20 hx hlk hS (Nat.le_trans (Nat.zero_le _) (Nat.le_trans (Nat.le_trans (Nat.le_trans E13.1 E14.1) (Keep.of_wr W15).1) K20.1)) cr27 hZ hEL hret rfl rfl (hb hby d1_34) (by decide) (by decide) e20 ?_
      refine ⟨_, rfl, N20, x23, ?_⟩
      have hsb : strb n c0 c1 c2 = [c0.toInt8.toInt32] := by simp [strb, hc1, hc17]
      rw [hsb]
      exact ⟨_, _, f24, C20, F20, V20⟩
    · refine Go.st (T' := s₁) (g' := (mkF m 35 #[.val (.int n), .val (.int c0), .val (.int c1), .val (.int c2)] [])) (fun _ zk => XS.icmpYes X0.here hx rfl (pc0 := 17) (pc' := 35) rfl (hb hby d1_17) rfl (feq hc17).2 (by decide) (by decide) zk) ?_
      refine Go.st (T' := s₁) (g' := (mkF m 36 #[.val (.int n), .val (.int c0), .val (.int c1), .val (.int c2)] [(.int n)])) (fun _ zk => XS.iloadN X0.here hx rfl (hb hby d1_35) rfl zk) ?_
      refine Go.st (T' := s₁) (g' := (mkF m 37 #[.val (.int n), .val (.int c0), .val (.int c1), .val (.int c2)] [(.int (2 : Int32)), (.int n)])) (fun _ zk => XS.iconst X0.here hx rfl (hb hby d1_36) zk) ?_
      by_cases hc37 : n = (2 : Int32)
      · refine Go.st (T' := s₁) (g' := (mkF m 40 #[.val (.int n), .val (.int c0), .val (.int c1), .val (.int c2)] [])) (fun _ zk => XS.icmpNo X0.here hx rfl (hb hby d1_37) rfl (teq hc37).2 zk) ?_
        obtain ⟨T28, h28, X28, e28, E28, A28, D28, -, st28⟩ := newO X0 hx hZ hown (w4 hw) (w5 hw) (w6 hw) e0 (g := (mkF m 40 #[.val (.int n), .val (.int c0), .val (.int c1), .val (.int c2)] [])) rfl (hb hby d1_40) (by decide) (by decide)
        obtain ⟨b28, g28⟩ : ∃ z, z = h0.size := ⟨_, rfl⟩
        rw [← g28] at A28 D28 st28
        have F28_value : Fld Z h28 b28 "java/lang/String" "value" "[B" .null := D28 (Or.inr (w20 hw)) (ty := (.array .byte)) (by decide)
        have F28_coder : Fld Z h28 b28 "java/lang/String" "coder" "B" (.int (0 : Int32)) := D28 (Or.inr (w21 hw)) (ty := .byte) (by decide)
        refine Go.st (T' := T28) (g' := (mkF m 43 #[.val (.int n), .val (.int c0), .val (.int c1), .val (.int c2)] [(.ref b28)])) (fun _ zk => st28 _ zk) ?_
        refine Go.st (T' := T28) (g' := (mkF m 44 #[.val (.int n), .val (.int c0), .val (.int c1), .val (.int c2)] [(.ref b28), (.ref b28)])) (fun _ zk => XS.dup X28.here hx rfl (hb hby d1_43) rfl rfl zk) ?_
        refine Go.st (T' := T28) (g' := (mkF m 45 #[.val (.int n), .val (.int c0), .val (.int c1), .val (.int c2)] [(.int (2 : Int32)), (.ref b28), (.ref b28)])) (fun _ zk => XS.iconst X28.here hx rfl (hb hby d1_44) zk) ?_
        obtain ⟨T29, h29, k29, X29, e29, E29, A29, st29⟩ := newP (aty := .char) X28 hx hZ (w7 hw) e28 (g := (mkF m 45 #[.val (.int n), .val (.int c0), .val (.int c1), .val (.int c2)] [(.int (2 : Int32)), (.ref b28), (.ref b28)])) rfl (hb hby d1_45) rfl (by decide) (cap := 2) (by decide) (by decide) (by decide) (by decide)
        obtain ⟨b29, g29⟩ : ∃ z, z = h28.size := ⟨_, rfl⟩
        rw [← g29] at A29 st29
        have V29 : Arv Z h29 b29 k29 .char (2 : Int32) [(.int (0 : Int32)), (.int (0 : Int32))] (.int (0 : Int32)) := (Arv.new A29 (by decide)).pad (pad_rep [] (.int (0 : Int32)) 2)
        refine Go.st (T' := T29) (g' := (mkF m 47 #[.val (.int n), .val (.int c0), .val (.int c1), .val (.int c2)] [(.ref b29), (.ref b28), (.ref b28)])) (fun _ zk => st29 _ zk) ?_
        refine Go.st (T' := T29) (g' := (mkF m 48 #[.val (.int n), .val (.int c0), .val (.int c1), .val (.int c2)] [(.ref b29), (.ref b29), (.ref b28), (.ref b28)])) (fun _ zk => XS.dup X29.here hx rfl (hb hby d1_47) rfl rfl zk) ?_
        refine Go.st (T' := T29) (g' := (mkF m 49 #[.val (.int n), .val (.int c0), .val (.int c1), .val (.int c2)] [(.int (0 : Int32)), (.ref b29), (.ref b29), (.ref b28), (.ref b28)])) (fun _ zk => XS.iconst X29.here hx rfl (hb hby d1_48) zk) ?_
        refine Go.st (T' := T29) (g' := (mkF m 50 #[.val (.int n), .val (.int c0), .val (.int c1), .val (.int c2)] [(.int c0), (.int (0 : Int32)), (.ref b29), (.ref b29), (.ref b28), (.ref b28)])) (fun _ zk => XS.iloadN X29.here hx rfl (hb hby d1_49) rfl zk) ?_
        obtain ⟨T30, h30, X30, e30, W30, V30, st30⟩ := stCV X29 hx hZ e29 V29 (j := (0 : Int32)) (i := 0) (by decide) rfl (Nat.le_of_ble_eq_true rfl) (g := (mkF m 50 #[.val (.int n), .val (.int c0), .val (.int c1), .val (.int c2)] [(.int c0), (.int (0 : Int32)), (.ref b29), (.ref b29), (.ref b28), (.ref b28)])) rfl rfl (hb hby d1_50)
        rw [nar_cid (x := c0) ⟨hq0.1, by omega⟩] at V30
        have V30' : Arv Z h30 b29 k29 .char (2 : Int32) [(.int c0), (.int (0 : Int32))] (.int (0 : Int32)) := V30
        have N30 := Fr.snoc X30 N0 (Nat.le_trans Z0 (Nat.le_trans E28.1 (Nat.le_of_eq g29.symm)))
        refine Go.st (T' := T30) (g' := (mkF m 51 #[.val (.int n), .val (.int c0), .val (.int c1), .val (.int c2)] [(.ref b29), (.ref b28), (.ref b28)])) (fun _ zk => st30 _ zk) ?_
        refine Go.st (T' := T30) (g' := (mkF m 52 #[.val (.int n), .val (.int c0), .val (.int c1), .val (.int c2)] [(.ref b29), (.ref b29), (.ref b28), (.ref b28)])) (fun _ zk => XS.dup X30.here hx rfl (hb hby d1_51) rfl rfl zk) ?_
        refine Go.st (T' := T30) (g' := (mkF m 53 #[.val (.int n), .val (.int c0), .val (.int c1), .val (.int c2)] [(.int (1 : Int32)), (.ref b29), (.ref b29), (.ref b28), (.ref b28)])) (fun _ zk => XS.iconst X30.here hx rfl (hb hby d1_52) zk) ?_
        refine Go.st (T' := T30) (g' := (mkF m 54 #[.val (.int n), .val (.int c0), .val (.int c1), .val (.int c2)] [(.int c1), (.int (1 : Int32)), (.ref b29), (.ref b29), (.ref b28), (.ref b28)])) (fun _ zk => XS.iloadN X30.here hx rfl (hb hby d1_53) rfl zk) ?_
        obtain ⟨T31, h31, X31, e31, W31, V31, st31⟩ := stCV X30 hx hZ e30 V30' (j := (1 : Int32)) (i := 1) (by decide) rfl (Nat.le_of_ble_eq_true rfl) (g := (mkF m 54 #[.val (.int n), .val (.int c0), .val (.int c1), .val (.int c2)] [(.int c1), (.int (1 : Int32)), (.ref b29), (.ref b29), (.ref b28), (.ref b28)])) rfl rfl (hb hby d1_54)
        rw [nar_cid (x := c1) ⟨hq1.1, by omega⟩] at V31
        have V31' : Arv Z h31 b29 k29 .char (2 : Int32) [(.int c0), (.int c1)] (.int (0 : Int32)) := V31
        have N31 := Fr.snoc X31 N30 (Nat.le_trans Z0 (Nat.le_trans E28.1 (Nat.le_of_eq g29.symm)))
        refine Go.st (T' := T31) (g' := (mkF m 55 #[.val (.int n), .val (.int c0), .val (.int c1), .val (.int c2)] [(.ref b29), (.ref b28), (.ref b28)])) (fun _ zk => st31 _ zk) ?_
        have x32 : Ext h28 h31 := ((E29.thenW W30 (Nat.le_of_eq g29.symm)).thenW W31 (Nat.le_of_eq g29.symm))
        have f33 := A28.ext x32
        have f34 := F28_coder.ext x32
        have f35 := F28_value.ext x32
        have x37 : Ext h0 h31 := (((E28.tr E29).thenW W30 (Nat.le_trans E28.1 (Nat.le_of_eq g29.symm))).thenW W31 (Nat.le_trans E28.1 (Nat.le_of_eq g29.symm)))
        have f38 := O0.ext x37
        refine Go.callSp (y := (⟨"java/lang/String", "<init>", "([C)V"⟩ : MethodName)) (a := b28) X31 hx hZ hown e31 rfl (w8 hw) (w9 hw) (w6 hw) (w10 hw) (by decide) (argsL := [(.ref b29)]) (rest := [(.ref b28)]) (W := 1) (rm_init1_2 l Z a0 hw [] b28 b29 k29 zc c0 c1 h31 n0 (Nat.le_trans Z0 (Nat.le_trans (Nat.le_trans (Nat.le_trans E28.1 E29.1) (Keep.of_wr W30).1) (Keep.of_wr W31).1)) f38 f33 (Nat.le_trans Z0 (Nat.le_trans (Nat.le_refl _) (Nat.le_of_eq g28.symm))) f34 f35 V31' CS hz (le255 hq0) (le255 hq1)) rfl (lenOf pd14 rfl) rfl (by rw [hml]; rfl) rfl (by show 2 * 0 + _ ≤ _; exact Nat.le_of_eq rfl) (by decide) (by decide) (by decide) (by decide) (hb hby d1_55) ?_
        intro v36 T36 h36 L36 X36 e36 q36
        obtain ⟨hv36, Nf36, K36, C36, t36, k36, ge36, F36, V36⟩ := q36
        subst hv36
        have N36 := Fr.app N31 Nf36
        show Go p.tables e below _ T36 (mkF m 58 #[.val (.int n), .val (.int c0), .val (.int c1), .val (.int c2)] [(.ref b28)])
        have x39 : Ext h0 h36 := (x37.thenK K36 (allS (P := fun x => h0.size ≤ x) (Nat.le_of_eq g28.symm) all0))
        have f40 := (f33.keep K36)
        have cr41 := (chrE hA E28)
        have cr42 := (chrE (chrE hA E28) E29)
        have cr43 := (chrW (chrE (chrE hA E28) E29) W30 (Safe.ext E29 (cr41).1 (Safe.new (Nat.le_of_eq g29.symm))))
        have cr44 := (chrK (chrW (chrW (chrE (chrE hA E28) E29) W30 (Safe.ext E29 (cr41).1 (Safe.new (Nat.le_of_eq g29.symm)))) W31 (Safe.wr W30 (Safe.ext E29 (cr41).1 (Safe.new (Nat.le_of_eq g29.symm))) (cr42).1 (Safe.ext E29 (cr41).1 (Safe.new (Nat.le_of_eq g29.symm))))) K36 (sfS (Safe.wr W31 (Safe.wr W30 (Safe.ext E29 (cr41).1 (Safe.new (Nat.le_of_eq g29.symm))) (cr42).1 (Safe.ext E29 (cr41).1 (Safe.new (Nat.le_of_eq g29.symm)))) (cr43).1 (Safe.wr W30 (Safe.ext E29 (cr41).1 (Safe.new (Nat.le_of_eq g29.symm))) (cr42).1 (Safe.ext E29 (cr41).1 (Safe.ext E28 (hA).1 (Safe.new (Nat.le_of_eq g28.symm)))))) sf0))
        refine Go.retAS X36 hx hlk hS (Nat.le_trans (Nat.zero_le _) (Nat.le_trans (Nat.le_trans (Nat.le_trans (Nat.le_trans E28.1 E29.1) (Keep.of_wr W30).1) (Keep.of_wr W31).1) K36.1)) cr44 hZ hEL hret rfl rfl (hb hby d1_58) (by decide) (by decide) e36 ?_
        refine ⟨_, rfl, N36, x39, ?_⟩
        have hsb : strb n c0 c1 c2 = [c0.toInt8.toInt32, c1.toInt8.toInt32] := by simp [strb, hc1, hc17, hc37]
        rw [hsb]
        exact ⟨_, _, f40, C36, F36, V36⟩
      · refine Go.st (T' := s₁) (g' := (mkF m 59 #[.val (.int n), .val (.int c0), .val (.int c1), .val (.int c2)] [])) (fun _ zk => XS.icmpYes X0.here hx rfl (pc0 := 37) (pc' := 59) rfl (hb hby d1_37) rfl (feq hc37).2 (by decide) (by decide) zk) ?_
        obtain ⟨T45, h45, X45, e45, E45, A45, D45, -, st45⟩ := newO X0 hx hZ hown (w4 hw) (w5 hw) (w6 hw) e0 (g := (mkF m 59 #[.val (.int n), .val (.int c0), .val (.int c1), .val (.int c2)] [])) rfl (hb hby d1_59) (by decide) (by decide)
        obtain ⟨b45, g45⟩ : ∃ z, z = h0.size := ⟨_, rfl⟩
        rw [← g45] at A45 D45 st45
        have F45_value : Fld Z h45 b45 "java/lang/String" "value" "[B" .null := D45 (Or.inr (w20 hw)) (ty := (.array .byte)) (by decide)
        have F45_coder : Fld Z h45 b45 "java/lang/String" "coder" "B" (.int (0 : Int32)) := D45 (Or.inr (w21 hw)) (ty := .byte) (by decide)
        refine Go.st (T' := T45) (g' := (mkF m 62 #[.val (.int n), .val (.int c0), .val (.int c1), .val (.int c2)] [(.ref b45)])) (fun _ zk => st45 _ zk) ?_
        refine Go.st (T' := T45) (g' := (mkF m 63 #[.val (.int n), .val (.int c0), .val (.int c1), .val (.int c2)] [(.ref b45), (.ref b45)])) (fun _ zk => XS.dup X45.here hx rfl (hb hby d1_62) rfl rfl zk) ?_
        refine Go.st (T' := T45) (g' := (mkF m 64 #[.val (.int n), .val (.int c0), .val (.int c1), .val (.int c2)] [(.int (3 : Int32)), (.ref b45), (.ref b45)])) (fun _ zk => XS.iconst X45.here hx rfl (hb hby d1_63) zk) ?_
        obtain ⟨T46, h46, k46, X46, e46, E46, A46, st46⟩ := newP (aty := .char) X45 hx hZ (w7 hw) e45 (g := (mkF m 64 #[.val (.int n), .val (.int c0), .val (.int c1), .val (.int c2)] [(.int (3 : Int32)), (.ref b45), (.ref b45)])) rfl (hb hby d1_64) rfl (by decide) (cap := 3) (by decide) (by decide) (by decide) (by decide)
        obtain ⟨b46, g46⟩ : ∃ z, z = h45.size := ⟨_, rfl⟩
        rw [← g46] at A46 st46
        have V46 : Arv Z h46 b46 k46 .char (3 : Int32) [(.int (0 : Int32)), (.int (0 : Int32)), (.int (0 : Int32))] (.int (0 : Int32)) := (Arv.new A46 (by decide)).pad (pad_rep [] (.int (0 : Int32)) 3)
        refine Go.st (T' := T46) (g' := (mkF m 66 #[.val (.int n), .val (.int c0), .val (.int c1), .val (.int c2)] [(.ref b46), (.ref b45), (.ref b45)])) (fun _ zk => st46 _ zk) ?_
        refine Go.st (T' := T46) (g' := (mkF m 67 #[.val (.int n), .val (.int c0), .val (.int c1), .val (.int c2)] [(.ref b46), (.ref b46), (.ref b45), (.ref b45)])) (fun _ zk => XS.dup X46.here hx rfl (hb hby d1_66) rfl rfl zk) ?_
        refine Go.st (T' := T46) (g' := (mkF m 68 #[.val (.int n), .val (.int c0), .val (.int c1), .val (.int c2)] [(.int (0 : Int32)), (.ref b46), (.ref b46), (.ref b45), (.ref b45)])) (fun _ zk => XS.iconst X46.here hx rfl (hb hby d1_67) zk) ?_
        refine Go.st (T' := T46) (g' := (mkF m 69 #[.val (.int n), .val (.int c0), .val (.int c1), .val (.int c2)] [(.int c0), (.int (0 : Int32)), (.ref b46), (.ref b46), (.ref b45), (.ref b45)])) (fun _ zk => XS.iloadN X46.here hx rfl (hb hby d1_68) rfl zk) ?_
        obtain ⟨T47, h47, X47, e47, W47, V47, st47⟩ := stCV X46 hx hZ e46 V46 (j := (0 : Int32)) (i := 0) (by decide) rfl (Nat.le_of_ble_eq_true rfl) (g := (mkF m 69 #[.val (.int n), .val (.int c0), .val (.int c1), .val (.int c2)] [(.int c0), (.int (0 : Int32)), (.ref b46), (.ref b46), (.ref b45), (.ref b45)])) rfl rfl (hb hby d1_69)
        rw [nar_cid (x := c0) ⟨hq0.1, by omega⟩] at V47
        have V47' : Arv Z h47 b46 k46 .char (3 : Int32) [(.int c0), (.int (0 : Int32)), (.int (0 : Int32))] (.int (0 : Int32)) := V47
        have N47 := Fr.snoc X47 N0 (Nat.le_trans Z0 (Nat.le_trans E45.1 (Nat.le_of_eq g46.symm)))
        refine Go.st (T' := T47) (g' := (mkF m 70 #[.val (.int n), .val (.int c0), .val (.int c1), .val (.int c2)] [(.ref b46), (.ref b45), (.ref b45)])) (fun _ zk => st47 _ zk) ?_
        refine Go.st (T' := T47) (g' := (mkF m 71 #[.val (.int n), .val (.int c0), .val (.int c1), .val (.int c2)] [(.ref b46), (.ref b46), (.ref b45), (.ref b45)])) (fun _ zk => XS.dup X47.here hx rfl (hb hby d1_70) rfl rfl zk) ?_
        refine Go.st (T' := T47) (g' := (mkF m 72 #[.val (.int n), .val (.int c0), .val (.int c1), .val (.int c2)] [(.int (1 : Int32)), (.ref b46), (.ref b46), (.ref b45), (.ref b45)])) (fun _ zk => XS.iconst X47.here hx rfl (hb hby d1_71) zk) ?_
        refine Go.st (T' := T47) (g' := (mkF m 73 #[.val (.int n), .val (.int c0), .val (.int c1), .val (.int c2)] [(.int c1), (.int (1 : Int32)), (.ref b46), (.ref b46), (.ref b45), (.ref b45)])) (fun _ zk => XS.iloadN X47.here hx rfl (hb hby d1_72) rfl zk) ?_
        obtain ⟨T48, h48, X48, e48, W48, V48, st48⟩ := stCV X47 hx hZ e47 V47' (j := (1 : Int32)) (i := 1) (by decide) rfl (Nat.le_of_ble_eq_true rfl) (g := (mkF m 73 #[.val (.int n), .val (.int c0), .val (.int c1), .val (.int c2)] [(.int c1), (.int (1 : Int32)), (.ref b46), (.ref b46), (.ref b45), (.ref b45)])) rfl rfl (hb hby d1_73)
        rw [nar_cid (x := c1) ⟨hq1.1, by omega⟩] at V48
        have V48' : Arv Z h48 b46 k46 .char (3 : Int32) [(.int c0), (.int c1), (.int (0 : Int32))] (.int (0 : Int32)) := V48
        have N48 := Fr.snoc X48 N47 (Nat.le_trans Z0 (Nat.le_trans E45.1 (Nat.le_of_eq g46.symm)))
        refine Go.st (T' := T48) (g' := (mkF m 74 #[.val (.int n), .val (.int c0), .val (.int c1), .val (.int c2)] [(.ref b46), (.ref b45), (.ref b45)])) (fun _ zk => st48 _ zk) ?_
        refine Go.st (T' := T48) (g' := (mkF m 75 #[.val (.int n), .val (.int c0), .val (.int c1), .val (.int c2)] [(.ref b46), (.ref b46), (.ref b45), (.ref b45)])) (fun _ zk => XS.dup X48.here hx rfl (hb hby d1_74) rfl rfl zk) ?_
        refine Go.st (T' := T48) (g' := (mkF m 76 #[.val (.int n), .val (.int c0), .val (.int c1), .val (.int c2)] [(.int (2 : Int32)), (.ref b46), (.ref b46), (.ref b45), (.ref b45)])) (fun _ zk => XS.iconst X48.here hx rfl (hb hby d1_75) zk) ?_
        refine Go.st (T' := T48) (g' := (mkF m 77 #[.val (.int n), .val (.int c0), .val (.int c1), .val (.int c2)] [(.int c2), (.int (2 : Int32)), (.ref b46), (.ref b46), (.ref b45), (.ref b45)])) (fun _ zk => XS.iloadN X48.here hx rfl (hb hby d1_76) rfl zk) ?_
        obtain ⟨T49, h49, X49, e49, W49, V49, st49⟩ := stCV X48 hx hZ e48 V48' (j := (2 : Int32)) (i := 2) (by decide) rfl (Nat.le_of_ble_eq_true rfl) (g := (mkF m 77 #[.val (.int n), .val (.int c0), .val (.int c1), .val (.int c2)] [(.int c2), (.int (2 : Int32)), (.ref b46), (.ref b46), (.ref b45), (.ref b45)])) rfl rfl (hb hby d1_77)
        rw [nar_cid (x := c2) ⟨hq2.1, by omega⟩] at V49
        have V49' : Arv Z h49 b46 k46 .char (3 : Int32) [(.int c0), (.int c1), (.int c2)] (.int (0 : Int32)) := V49
        have N49 := Fr.snoc X49 N48 (Nat.le_trans Z0 (Nat.le_trans E45.1 (Nat.le_of_eq g46.symm)))
        refine Go.st (T' := T49) (g' := (mkF m 78 #[.val (.int n), .val (.int c0), .val (.int c1), .val (.int c2)] [(.ref b46), (.ref b45), (.ref b45)])) (fun _ zk => st49 _ zk) ?_
        have x50 : Ext h45 h49 := (((E46.thenW W47 (Nat.le_of_eq g46.symm)).thenW W48 (Nat.le_of_eq g46.symm)).thenW W49 (Nat.le_of_eq g46.symm))
        have f51 := A45.ext x50
        have f52 := F45_coder.ext x50
        have f53 := F45_value.ext x50
        have x55 : Ext h0 h49 := ((((E45.tr E46).thenW W47 (Nat.le_trans E45.1 (Nat.le_of_eq g46.symm))).thenW W48 (Nat.le_trans E45.1 (Nat.le_of_eq g46.symm))).thenW W49 (Nat.le_trans E45.1 (Nat.le_of_eq g46.symm)))
        have f56 := O0.ext x55
        refine Go.callSp (y := (⟨"java/lang/String", "<init>", "([C)V"⟩ : MethodName)) (a := b45) X49 hx hZ hown e49 rfl (w8 hw) (w9 hw) (w6 hw) (w10 hw) (by decide) (argsL := [(.ref b46)]) (rest := [(.ref b45)]) (W := 1) (rm_init1_3 l Z a0 hw [] b45 b46 k46 zc c0 c1 c2 h49 n0 (Nat.le_trans Z0 (Nat.le_trans (Nat.le_trans (Nat.le_trans (Nat.le_trans E45.1 E46.1) (Keep.of_wr W47).1) (Keep.of_wr W48).1) (Keep.of_wr W49).1)) f56 f51 (Nat.le_trans Z0 (Nat.le_trans (Nat.le_refl _) (Nat.le_of_eq g45.symm))) f52 f53 V49' CS hz (le255 hq0) (le255 hq1) (le255 hq2)) rfl (lenOf pd14 rfl) rfl (by rw [hml]; rfl) rfl (by show 2 * 0 + _ ≤ _; exact Nat.le_of_eq rfl) (by decide) (by decide) (by decide) (by decide) (hb hby d1_78) ?_
        intro v54 T54 h54 L54 X54 e54 q54
        obtain ⟨hv54, Nf54, K54, C54, t54, k54, ge54, F54, V54⟩ := q54
        subst hv54
        have N54 := Fr.app N49 Nf54
        show Go p.tables e below _ T54 (mkF m 81 #[.val (.int n), .val (.int c0), .val (.int c1), .val (.int c2)] [(.ref b45)])
        have x57 : Ext h0 h54 := (x55.thenK K54 (allS (P := fun x => h0.size ≤ x) (Nat.le_of_eq g45.symm) all0))
        have f58 := (f51.keep K54)
        have cr59 := (chrE hA E45)
        have cr60 := (chrE (chrE hA E45) E46)
        have cr61 := (chrW (chrE (chrE hA E45) E46) W47 (Safe.ext E46 (cr59).1 (Safe.new (Nat.le_of_eq g46.symm))))
        have cr62 := (chrW (chrW (chrE (chrE hA E45) E46) W47 (Safe.ext E46 (cr59).1 (Safe.new (Nat.le_of_eq g46.symm)))) W48 (Safe.wr W47 (Safe.ext E46 (cr59).1 (Safe.new (Nat.le_of_eq g46.symm))) (cr60).1 (Safe.ext E46 (cr59).1 (Safe.new (Nat.le_of_eq g46.symm)))))
        have cr63 := (chrK (chrW (chrW (chrW (chrE (chrE hA E45) E46) W47 (Safe.ext E46 (cr59).1 (Safe.new (Nat.le_of_eq g46.symm)))) W48 (Safe.wr W47 (Safe.ext E46 (cr59).1 (Safe.new (Nat.le_of_eq g46.symm))) (cr60).1 (Safe.ext E46 (cr59).1 (Safe.new (Nat.le_of_eq g46.symm))))) W49 (Safe.wr W48 (Safe.wr W47 (Safe.ext E46 (cr59).1 (Safe.new (Nat.le_of_eq g46.symm))) (cr60).1 (Safe.ext E46 (cr59).1 (Safe.new (Nat.le_of_eq g46.symm)))) (cr61).1 (Safe.wr W47 (Safe.ext E46 (cr59).1 (Safe.new (Nat.le_of_eq g46.symm))) (cr60).1 (Safe.ext E46 (cr59).1 (Safe.new (Nat.le_of_eq g46.symm)))))) K54 (sfS (Safe.wr W49 (Safe.wr W48 (Safe.wr W47 (Safe.ext E46 (cr59).1 (Safe.new (Nat.le_of_eq g46.symm))) (cr60).1 (Safe.ext E46 (cr59).1 (Safe.new (Nat.le_of_eq g46.symm)))) (cr61).1 (Safe.wr W47 (Safe.ext E46 (cr59).1 (Safe.new (Nat.le_of_eq g46.symm))) (cr60).1 (Safe.ext E46 (cr59).1 (Safe.new (Nat.le_of_eq g46.symm))))) (cr62).1 (Safe.wr W48 (Safe.wr W47 (Safe.ext E46 (cr59).1 (Safe.new (Nat.le_of_eq g46.symm))) (cr60).1 (Safe.ext E46 (cr59).1 (Safe.new (Nat.le_of_eq g46.symm)))) (cr61).1 (Safe.wr W47 (Safe.ext E46 (cr59).1 (Safe.new (Nat.le_of_eq g46.symm))) (cr60).1 (Safe.ext E46 (cr59).1 (Safe.ext E45 (hA).1 (Safe.new (Nat.le_of_eq g45.symm))))))) sf0))
        refine Go.retAS X54 hx hlk hS (Nat.le_trans (Nat.zero_le _) (Nat.le_trans (Nat.le_trans (Nat.le_trans (Nat.le_trans (Nat.le_trans E45.1 E46.1) (Keep.of_wr W47).1) (Keep.of_wr W48).1) (Keep.of_wr W49).1) K54.1)) cr63 hZ hEL hret rfl rfl (hb hby d1_81) (by decide) (by decide) e54 ?_
        refine ⟨_, rfl, N54, x57, ?_⟩
        have hsb : strb n c0 c1 c2 = [c0.toInt8.toInt32, c1.toInt8.toInt32, c2.toInt8.toInt32] := by simp [strb, hc1, hc17, hc37]
        rw [hsb]
        exact ⟨_, _, f58, C54, F54, V54⟩
theorem d7_0 : decode prog_67_method_7_code 0 = .ok (.aload_n 1, 1) := by decide +kernel
theorem d7_1 : decode prog_67_method_7_code 1 = .ok (.instanceof 18, 3) := by decide +kernel
theorem w46 {a0 : Array Value} {Z : State} (hw : ∀ d ∈ tables_1, d.before a0 Z = true) : ((Jvm.Cond.classLink "com/example/patience/patience/language/Variable" (18 : Nat) "com/example/patience/patience/language/Variable")).before a0 Z = true := hw _ (List.mem_of_getElem? (i := 46) rfl)
theorem d7_4 : decode prog_67_method_7_code 4 = .ok (.ifCond .eq 26, 3) := by decide +kernel
theorem d7_7 : decode prog_67_method_7_code 7 = .ok (.aload_n 1, 1) := by decide +kernel
theorem d7_8 : decode prog_67_method_7_code 8 = .ok (.checkcast 18, 3) := by decide +kernel
theorem d7_11 : decode prog_67_method_7_code 11 = .ok (.astore_n 2, 1) := by decide +kernel
theorem d7_12 : decode prog_67_method_7_code 12 = .ok (.aload_n 0, 1) := by decide +kernel
theorem d7_13 : decode prog_67_method_7_code 13 = .ok (.getfield 17, 3) := by decide +kernel
theorem d7_16 : decode prog_67_method_7_code 16 = .ok (.aload_n 2, 1) := by decide +kernel
theorem d7_17 : decode prog_67_method_7_code 17 = .ok (.getfield 17, 3) := by decide +kernel
theorem w54 {a0 : Array Value} {Z : State} (hw : ∀ d ∈ tables_1, d.before a0 Z = true) : ((Jvm.Cond.code ({ cls := "java/lang/String", name := "equals", desc := "(Ljava/lang/Object;)Z" } : Jvm.MethodName) jdk_42_method_66_code (3 : Nat) (Option.some Jvm.ClassFile.FieldType.boolean))).before a0 Z = true := hw _ (List.mem_of_getElem? (i := 54) rfl)
theorem pd16 : parseMethodDescriptor "(Ljava/lang/Object;)Z" = some ⟨[(.object "java/lang/Object")], some .boolean⟩ := by decide +kernel
theorem d7_20 : decode prog_67_method_7_code 20 = .ok (.invokevirtual 39, 3) := by decide +kernel
theorem w53 {a0 : Array Value} {Z : State} (hw : ∀ d ∈ tables_1, d.before a0 Z = true) : ((Jvm.Cond.selects "java/lang/String" ({ cls := "java/lang/String", name := "equals", desc := "(Ljava/lang/Object;)Z" } : Jvm.MethodName) ({ cls := "java/lang/String", name := "equals", desc := "(Ljava/lang/Object;)Z" } : Jvm.MethodName))).before a0 Z = true := hw _ (List.mem_of_getElem? (i := 53) rfl)
theorem w52 {a0 : Array Value} {Z : State} (hw : ∀ d ∈ tables_1, d.before a0 Z = true) : ((Jvm.Cond.instanceMethod ({ cls := "java/lang/String", name := "equals", desc := "(Ljava/lang/Object;)Z" } : Jvm.MethodName))).before a0 Z = true := hw _ (List.mem_of_getElem? (i := 52) rfl)
theorem w50 {a0 : Array Value} {Z : State} (hw : ∀ d ∈ tables_1, d.before a0 Z = true) : ((Jvm.Cond.methodLink "com/example/patience/patience/language/Variable" (39 : Nat) ({ cls := "java/lang/String", name := "equals", desc := "(Ljava/lang/Object;)Z" } : Jvm.MethodName))).before a0 Z = true := hw _ (List.mem_of_getElem? (i := 50) rfl)
theorem w51 {a0 : Array Value} {Z : State} (hw : ∀ d ∈ tables_1, d.before a0 Z = true) : ((Jvm.Cond.declares ({ cls := "java/lang/String", name := "equals", desc := "(Ljava/lang/Object;)Z" } : Jvm.MethodName))).before a0 Z = true := hw _ (List.mem_of_getElem? (i := 51) rfl)
theorem d7_23 : decode prog_67_method_7_code 23 = .ok (.ifCond .eq 7, 3) := by decide +kernel
theorem d7_30 : decode prog_67_method_7_code 30 = .ok (.iconst 0, 1) := by decide +kernel
theorem d7_31 : decode prog_67_method_7_code 31 = .ok (.ireturn, 1) := by decide +kernel
theorem d7_26 : decode prog_67_method_7_code 26 = .ok (.iconst 1, 1) := by decide +kernel
theorem d7_27 : decode prog_67_method_7_code 27 = .ok (.goto 4, 3) := by decide +kernel
def rr_eqVV : Room := { frames := 2, cells := 0, slots := 0, locals := 28 }
set_option maxRecDepth 65536 in
set_option maxHeartbeats 40000000 in
theorem rm_eqVV (l : Launch) (Z : State) (a0 : Array Value) (hw : ∀ d ∈ tables_1, d.before a0 Z = true) (ws : List Jvm.Cond) (a1 a2 x0 y0 : Addr) (zc : Int32) (bs ds : List Int32) (h0 : Heap) (n0 : Nat) (Z0 : n0 ≤ h0.size) (O0 : Old Z n0 h0) (E1 : Exa Z h0 a1 "com/example/patience/patience/language/Variable") (E2 : Exa Z h0 a2 "com/example/patience/patience/language/Variable") (G1 : Fld Z h0 a1 "com/example/patience/patience/language/Variable" "name" "Ljava/lang/String;" (.ref x0)) (G2 : Fld Z h0 a2 "com/example/patience/patience/language/Variable" "name" "Ljava/lang/String;" (.ref y0)) (S1 : StrB Z h0 x0 0 bs) (S2 : StrB Z h0 y0 0 ds) (lb : bs.length < 2 ^ 31) (ld : ds.length < 2 ^ 31) (CS : Sta Z Z.heap "java/lang/String" "COMPACT_STRINGS" "Z" (.int zc)) (hz : ¬ zc = 0) :
    Con l Z (⟨"com/example/patience/patience/language/Variable", "equals", "(Ljava/lang/Object;)Z"⟩ : MethodName) prog_67_method_7_code 3 (some .boolean) ws rr_eqVV #[(.ref a1), (.ref a2)] h0 (fun v h L => ∃ r : Int32, v = some (.int r) ∧ ((r = 1 ∧ bs = ds) ∨ (r = 0 ∧ ¬ bs = ds)) ∧ Fr n0 L ∧ h = h0) := by
  refine Con.enter (plainFor_of_name pn6) ?_
  intro p e s m below meth c s₁ X0 hx hZ hby hml hret hlk hown hnm e0
  have N0 := Fr.nil n0
  refine Go.cast (g' := (mkF m 0 #[.val (.ref a1), .val (.ref a2), .unset] [])) (by first | rfl | (simp [entryFrame, mkF, argsToLocals, Value.category]; done)) ?_
  refine Go.st (T' := s₁) (g' := (mkF m 1 #[.val (.ref a1), .val (.ref a2), .unset] [(.ref a2)])) (fun _ zk => XS.aloadN X0.here hx rfl (hb hby d7_0) rfl rfl zk) ?_
  obtain ⟨T1, X1, e1, st1⟩ := instY X0 hx hZ hown (w46 hw) e0 (Ins.self E2) (g := (mkF m 1 #[.val (.ref a1), .val (.ref a2), .unset] [(.ref a2)])) rfl rfl (hb hby d7_1)
  refine Go.st (T' := T1) (g' := (mkF m 4 #[.val (.ref a1), .val (.ref a2), .unset] [(.int (1 : Int32))])) (fun _ zk => st1 _ zk) ?_
  refine Go.st (T' := T1) (g' := (mkF m 7 #[.val (.ref a1), .val (.ref a2), .unset] [])) (fun _ zk => XS.ifNo X1.here hx rfl (hb hby d7_4) rfl ((if0 _ _).trans (feq ((by decide) : ¬ ((1 : Int32) = (0 : Int32)))).1) zk) ?_
  refine Go.st (T' := T1) (g' := (mkF m 8 #[.val (.ref a1), .val (.ref a2), .unset] [(.ref a2)])) (fun _ zk => XS.aloadN X1.here hx rfl (hb hby d7_7) rfl rfl zk) ?_
  obtain ⟨T2, X2, e2, st2⟩ := castY X1 hx hZ hown (w46 hw) e1 (Ins.self E2) (g := (mkF m 8 #[.val (.ref a1), .val (.ref a2), .unset] [(.ref a2)])) rfl rfl (hb hby d7_8)
  refine Go.st (T' := T2) (g' := (mkF m 11 #[.val (.ref a1), .val (.ref a2), .unset] [(.ref a2)])) (fun _ zk => st2 _ zk) ?_
  refine Go.st (T' := T2) (g' := (mkF m 12 #[.val (.ref a1), .val (.ref a2), .val (.ref a2)] [])) (fun _ zk => XS.astoreN X2.here hx rfl (hb hby d7_11) rfl rfl (l' := #[.val (.ref a1), .val (.ref a2), .val (.ref a2)]) rfl zk) ?_
  refine Go.st (T' := T2) (g' := (mkF m 13 #[.val (.ref a1), .val (.ref a2), .val (.ref a2)] [(.ref a1)])) (fun _ zk => XS.aloadN X2.here hx rfl (hb hby d7_12) rfl rfl zk) ?_
  obtain ⟨T3, X3, e3, st3⟩ := getF X2 hx hZ hown (host := "") (Or.inl (w39 hw)) Via.refl e2 G1 (g := (mkF m 13 #[.val (.ref a1), .val (.ref a2), .val (.ref a2)] [(.ref a1)])) rfl rfl (hb hby d7_13)
  refine Go.st (T' := T3) (g' := (mkF m 16 #[.val (.ref a1), .val (.ref a2), .val (.ref a2)] [(.ref x0)])) (fun _ zk => st3 _ zk) ?_
  refine Go.st (T' := T3) (g' := (mkF m 17 #[.val (.ref a1), .val (.ref a2), .val (.ref a2)] [(.ref a2), (.ref x0)])) (fun _ zk => XS.aloadN X3.here hx rfl (hb hby d7_16) rfl rfl zk) ?_
  obtain ⟨T4, X4, e4, st4⟩ := getF X3 hx hZ hown (host := "") (Or.inl (w39 hw)) Via.refl e3 G2 (g := (mkF m 17 #[.val (.ref a1), .val (.ref a2), .val (.ref a2)] [(.ref a2), (.ref x0)])) rfl rfl (hb hby d7_17)
  refine Go.st (T' := T4) (g' := (mkF m 20 #[.val (.ref a1), .val (.ref a2), .val (.ref a2)] [(.ref y0), (.ref x0)])) (fun _ zk => st4 _ zk) ?_
  refine Go.callV (y := (⟨"java/lang/String", "equals", "(Ljava/lang/Object;)Z"⟩ : MethodName)) (z := (⟨"java/lang/String", "equals", "(Ljava/lang/Object;)Z"⟩ : MethodName)) (C := "java/lang/String") (a := x0) X4 hx hZ hown e4 (w50 hw) (w51 hw) (w53 hw) (w52 hw) (w6 hw) (w54 hw) (notFace_of_selects (args := #[]) (mvT hZ (w53 hw))) (by decide) S1.exa (argsL := [(.ref y0)]) (rest := []) (W := 0) (rm_eqStr l Z a0 hw [] x0 y0 0 0 zc bs ds h0 n0 Z0 O0 S1 S2 lb ld CS hz) rfl (lenOf pd16 rfl) rfl (by rw [hml]; rfl) rfl (by show 2 * 0 + _ ≤ _; exact Nat.le_of_eq rfl) (by decide) (by decide) (by decide) (by decide) (hb hby d7_20) ?_
  intro v5 T5 h5 L5 X5 e5 q5
  obtain ⟨r5, hv5, hr5, Nf5, hh5⟩ := q5
  subst hv5
  have E5 : T5.heap = h0 := e5.trans hh5
  have N5 := Fr.app N0 Nf5
  show Go p.tables e below _ T5 (mkF m 23 #[.val (.ref a1), .val (.ref a2), .val (.ref a2)] [(.int r5)])
  by_cases hc23 : r5 = (0 : Int32)
  · refine Go.st (T' := T5) (g' := (mkF m 30 #[.val (.ref a1), .val (.ref a2), .val (.ref a2)] [])) (fun _ zk => XS.ifYes X5.here hx rfl (pc0 := 23) (pc' := 30) rfl (hb hby d7_23) rfl ((if0 _ _).trans (teq hc23).1) (by decide) (by decide) zk) ?_
    refine Go.st (T' := T5) (g' := (mkF m 31 #[.val (.ref a1), .val (.ref a2), .val (.ref a2)] [(.int (0 : Int32))])) (fun _ zk => XS.iconst X5.here hx rfl (hb hby d7_30) zk) ?_
    refine Go.retN X5 hx hlk hret rfl (by simp) (hb hby d7_31) (by decide) (by decide) E5 ?_
    rcases hr5 with ⟨hr1, hr2⟩ | ⟨hr1, hr2⟩
    · first | exact ⟨_, rfl, Or.inl ⟨rfl, hr2.2⟩, N5, rfl⟩ | exact absurd (hr1.symm.trans hc23) (by decide)
    · first | exact absurd hr1 hc23 | exact ⟨_, rfl, Or.inr ⟨rfl, fun q => hr2 ⟨rfl, q⟩⟩, N5, rfl⟩
  · refine Go.st (T' := T5) (g' := (mkF m 26 #[.val (.ref a1), .val (.ref a2), .val (.ref a2)] [])) (fun _ zk => XS.ifNo X5.here hx rfl (hb hby d7_23) rfl ((if0 _ _).trans (feq hc23).1) zk) ?_
    refine Go.st (T' := T5) (g' := (mkF m 27 #[.val (.ref a1), .val (.ref a2), .val (.ref a2)] [(.int (1 : Int32))])) (fun _ zk => XS.iconst X5.here hx rfl (hb hby d7_26) zk) ?_
    refine Go.st (T' := T5) (g' := (mkF m 31 #[.val (.ref a1), .val (.ref a2), .val (.ref a2)] [(.int (1 : Int32))])) (fun _ zk => XS.goto X5.here hx rfl (pc0 := 27) (pc' := 31) rfl (hb hby d7_27) (by decide) (by decide) zk) ?_
    refine Go.retN X5 hx hlk hret rfl (by simp) (hb hby d7_31) (by decide) (by decide) E5 ?_
    rcases hr5 with ⟨hr1, hr2⟩ | ⟨hr1, hr2⟩
    · first | exact ⟨_, rfl, Or.inl ⟨rfl, hr2.2⟩, N5, rfl⟩ | exact absurd (hr1.symm.trans hc23) (by decide)
    · first | exact absurd hr1 hc23 | exact ⟨_, rfl, Or.inr ⟨rfl, fun q => hr2 ⟨rfl, q⟩⟩, N5, rfl⟩
theorem w48 {a0 : Array Value} {Z : State} (hw : ∀ d ∈ tables_1, d.before a0 Z = true) : ((Jvm.Cond.noSuperclass "java/lang/Object")).before a0 Z = true := hw _ (List.mem_of_getElem? (i := 48) rfl)
theorem w47 {a0 : Array Value} {Z : State} (hw : ∀ d ∈ tables_1, d.before a0 Z = true) : ((Jvm.Cond.superclass "java/lang/String" "java/lang/Object")).before a0 Z = true := hw _ (List.mem_of_getElem? (i := 47) rfl)
def rr_eqVS : Room := { frames := 0, cells := 0, slots := 0, locals := 0 }
set_option maxRecDepth 65536 in
set_option maxHeartbeats 40000000 in
theorem rm_eqVS (l : Launch) (Z : State) (a0 : Array Value) (hw : ∀ d ∈ tables_1, d.before a0 Z = true) (ws : List Jvm.Cond) (a1 b1 : Addr) (h0 : Heap) (n0 : Nat) (Z0 : n0 ≤ h0.size) (E2 : Exa Z h0 b1 "java/lang/String") :
    Con l Z (⟨"com/example/patience/patience/language/Variable", "equals", "(Ljava/lang/Object;)Z"⟩ : MethodName) prog_67_method_7_code 3 (some .boolean) ws rr_eqVS #[(.ref a1), (.ref b1)] h0 (fun v h L => v = some (.int 0) ∧ Fr n0 L ∧ h = h0) := by
  refine Con.enter (plainFor_of_name pn6) ?_
  intro p e s m below meth c s₁ X0 hx hZ hby hml hret hlk hown hnm e0
  have N0 := Fr.nil n0
  refine Go.cast (g' := (mkF m 0 #[.val (.ref a1), .val (.ref b1), .unset] [])) (by first | rfl | (simp [entryFrame, mkF, argsToLocals, Value.category]; done)) ?_
  refine Go.st (T' := s₁) (g' := (mkF m 1 #[.val (.ref a1), .val (.ref b1), .unset] [(.ref b1)])) (fun _ zk => XS.aloadN X0.here hx rfl (hb hby d7_0) rfl rfl zk) ?_
  obtain ⟨T1, X1, e1, st1⟩ := instNo X0 hx hZ hown (w46 hw) e0 E2 (NS.noI (w47 hw) (w27 hw) (NS.step (w47 hw) (NS.rootI (w48 hw) (w27 hw) (by decide)) (by decide)) (by decide)) (g := (mkF m 1 #[.val (.ref a1), .val (.ref b1), .unset] [(.ref b1)])) rfl rfl (hb hby d7_1)
  refine Go.st (T' := T1) (g' := (mkF m 4 #[.val (.ref a1), .val (.ref b1), .unset] [(.int (0 : Int32))])) (fun _ zk => st1 _ zk) ?_
  refine Go.st (T' := T1) (g' := (mkF m 30 #[.val (.ref a1), .val (.ref b1), .unset] [])) (fun _ zk => XS.ifYes X1.here hx rfl (pc0 := 4) (pc' := 30) rfl (hb hby d7_4) rfl ((if0 _ _).trans (teq (rfl : (0 : Int32) = (0 : Int32))).1) (by decide) (by decide) zk) ?_
  refine Go.st (T' := T1) (g' := (mkF m 31 #[.val (.ref a1), .val (.ref b1), .unset] [(.int (0 : Int32))])) (fun _ zk => XS.iconst X1.here hx rfl (hb hby d7_30) zk) ?_
  refine Go.retN X1 hx hlk hret rfl (by simp) (hb hby d7_31) (by decide) (by decide) e1 ?_
  exact ⟨rfl, N0, rfl⟩
theorem w88 {a0 : Array Value} {Z : State} (hw : ∀ d ∈ tables_1, d.before a0 Z = true) : ((Jvm.Cond.superclass "java/lang/Record" "java/lang/Object")).before a0 Z = true := hw _ (List.mem_of_getElem? (i := 88) rfl)
theorem w87 {a0 : Array Value} {Z : State} (hw : ∀ d ∈ tables_1, d.before a0 Z = true) : ((Jvm.Cond.superclass "com/example/patience/patience/language/Action" "java/lang/Record")).before a0 Z = true := hw _ (List.mem_of_getElem? (i := 87) rfl)
def rr_eqVA : Room := { frames := 0, cells := 0, slots := 0, locals := 0 }
set_option maxRecDepth 65536 in
set_option maxHeartbeats 40000000 in
theorem rm_eqVA (l : Launch) (Z : State) (a0 : Array Value) (hw : ∀ d ∈ tables_1, d.before a0 Z = true) (ws : List Jvm.Cond) (a1 b1 : Addr) (h0 : Heap) (n0 : Nat) (Z0 : n0 ≤ h0.size) (E2 : Exa Z h0 b1 "com/example/patience/patience/language/Action") :
    Con l Z (⟨"com/example/patience/patience/language/Variable", "equals", "(Ljava/lang/Object;)Z"⟩ : MethodName) prog_67_method_7_code 3 (some .boolean) ws rr_eqVA #[(.ref a1), (.ref b1)] h0 (fun v h L => v = some (.int 0) ∧ Fr n0 L ∧ h = h0) := by
  refine Con.enter (plainFor_of_name pn6) ?_
  intro p e s m below meth c s₁ X0 hx hZ hby hml hret hlk hown hnm e0
  have N0 := Fr.nil n0
  refine Go.cast (g' := (mkF m 0 #[.val (.ref a1), .val (.ref b1), .unset] [])) (by first | rfl | (simp [entryFrame, mkF, argsToLocals, Value.category]; done)) ?_
  refine Go.st (T' := s₁) (g' := (mkF m 1 #[.val (.ref a1), .val (.ref b1), .unset] [(.ref b1)])) (fun _ zk => XS.aloadN X0.here hx rfl (hb hby d7_0) rfl rfl zk) ?_
  obtain ⟨T1, X1, e1, st1⟩ := instNo X0 hx hZ hown (w46 hw) e0 E2 (NS.noI (w87 hw) (w27 hw) (NS.step (w87 hw) (NS.step (w88 hw) (NS.rootI (w48 hw) (w27 hw) (by decide)) (by decide)) (by decide)) (by decide)) (g := (mkF m 1 #[.val (.ref a1), .val (.ref b1), .unset] [(.ref b1)])) rfl rfl (hb hby d7_1)
  refine Go.st (T' := T1) (g' := (mkF m 4 #[.val (.ref a1), .val (.ref b1), .unset] [(.int (0 : Int32))])) (fun _ zk => st1 _ zk) ?_
  refine Go.st (T' := T1) (g' := (mkF m 30 #[.val (.ref a1), .val (.ref b1), .unset] [])) (fun _ zk => XS.ifYes X1.here hx rfl (pc0 := 4) (pc' := 30) rfl (hb hby d7_4) rfl ((if0 _ _).trans (teq (rfl : (0 : Int32) = (0 : Int32))).1) (by decide) (by decide) zk) ?_
  refine Go.st (T' := T1) (g' := (mkF m 31 #[.val (.ref a1), .val (.ref b1), .unset] [(.int (0 : Int32))])) (fun _ zk => XS.iconst X1.here hx rfl (hb hby d7_30) zk) ?_
  refine Go.retN X1 hx hlk hret rfl (by simp) (hb hby d7_31) (by decide) (by decide) e1 ?_
  exact ⟨rfl, N0, rfl⟩
def rr_eqVN : Room := { frames := 0, cells := 0, slots := 0, locals := 0 }
set_option maxRecDepth 65536 in
set_option maxHeartbeats 40000000 in
theorem rm_eqVN (l : Launch) (Z : State) (a0 : Array Value) (hw : ∀ d ∈ tables_1, d.before a0 Z = true) (ws : List Jvm.Cond) (a1 : Addr) (h0 : Heap) (n0 : Nat) (Z0 : n0 ≤ h0.size)  :
    Con l Z (⟨"com/example/patience/patience/language/Variable", "equals", "(Ljava/lang/Object;)Z"⟩ : MethodName) prog_67_method_7_code 3 (some .boolean) ws rr_eqVN #[(.ref a1), .null] h0 (fun v h L => v = some (.int 0) ∧ Fr n0 L ∧ h = h0) := by
  refine Con.enter (plainFor_of_name pn6) ?_
  intro p e s m below meth c s₁ X0 hx hZ hby hml hret hlk hown hnm e0
  have N0 := Fr.nil n0
  refine Go.cast (g' := (mkF m 0 #[.val (.ref a1), .val .null, .unset] [])) (by first | rfl | (simp [entryFrame, mkF, argsToLocals, Value.category]; done)) ?_
  refine Go.st (T' := s₁) (g' := (mkF m 1 #[.val (.ref a1), .val .null, .unset] [.null])) (fun _ zk => XS.aloadN X0.here hx rfl (hb hby d7_0) rfl rfl zk) ?_
  refine Go.st (T' := s₁) (g' := (mkF m 4 #[.val (.ref a1), .val .null, .unset] [(.int (0 : Int32))])) (fun _ zk => X0.instanceofNull hx (g := (mkF m 1 #[.val (.ref a1), .val .null, .unset] [.null])) rfl rfl (hb hby d7_1) _ zk) ?_
  refine Go.st (T' := s₁) (g' := (mkF m 30 #[.val (.ref a1), .val .null, .unset] [])) (fun _ zk => XS.ifYes X0.here hx rfl (pc0 := 4) (pc' := 30) rfl (hb hby d7_4) rfl ((if0 _ _).trans (teq (rfl : (0 : Int32) = (0 : Int32))).1) (by decide) (by decide) zk) ?_
  refine Go.st (T' := s₁) (g' := (mkF m 31 #[.val (.ref a1), .val .null, .unset] [(.int (0 : Int32))])) (fun _ zk => XS.iconst X0.here hx rfl (hb hby d7_30) zk) ?_
  refine Go.retN X0 hx hlk hret rfl (by simp) (hb hby d7_31) (by decide) (by decide) e0 ?_
  exact ⟨rfl, N0, rfl⟩
theorem own_m4 (x : Int32) : 0 ≤ (x &&& 3).toInt ∧ (x &&& 3).toInt ≤ 3 := by
  have h := c_mask x 3 2 (by decide) (by decide)
  omega
def same (n m c0 c1 c2 d0 d1 d2 : Int32) : Prop := n = m ∧ (n < 1 ∨ c0 = d0) ∧ (n < 2 ∨ c1 = d1) ∧ (n < 3 ∨ c2 = d2)
theorem own_4 {i : Int32} (h : 0 ≤ i.toInt ∧ i.toInt ≤ 3) : i = 0 ∨ i = 1 ∨ i = 2 ∨ i = 3 := by
  have e : ∀ k : Int32, i.toInt = k.toInt → i = k := fun k q => Int32.toInt_inj.mp q
  have h2 : i.toInt = 0 ∨ i.toInt = 1 ∨ i.toInt = 2 ∨ i.toInt = 3 := by omega
  rcases h2 with q | q | q | q
  · exact Or.inl (e 0 q)
  · exact Or.inr (Or.inl (e 1 q))
  · exact Or.inr (Or.inr (Or.inl (e 2 q)))
  · exact Or.inr (Or.inr (Or.inr (e 3 q)))
theorem own_same {n m c0 c1 c2 d0 d1 d2 : Int32} (hn : 0 ≤ n.toInt ∧ n.toInt ≤ 3) (hm : 0 ≤ m.toInt ∧ m.toInt ≤ 3) (b0 : 0 ≤ c0.toInt ∧ c0.toInt ≤ 255) (b1 : 0 ≤ c1.toInt ∧ c1.toInt ≤ 255) (b2 : 0 ≤ c2.toInt ∧ c2.toInt ≤ 255) (e0 : 0 ≤ d0.toInt ∧ d0.toInt ≤ 255) (e1 : 0 ≤ d1.toInt ∧ d1.toInt ≤ 255) (e2 : 0 ≤ d2.toInt ∧ d2.toInt ≤ 255) : strb n c0 c1 c2 = strb m d0 d1 d2 ↔ same n m c0 c1 c2 d0 d1 d2 := by
  have l01 : (0 : Int32) < 1 := by decide
  have l02 : (0 : Int32) < 2 := by decide
  have l03 : (0 : Int32) < 3 := by decide
  have l12 : (1 : Int32) < 2 := by decide
  have l13 : (1 : Int32) < 3 := by decide
  have l23 : (2 : Int32) < 3 := by decide
  have i0 : c0.toInt8.toInt32 = d0.toInt8.toInt32 ↔ c0 = d0 := ⟨lo_inj b0 e0, fun q => by rw [q]⟩
  have i1 : c1.toInt8.toInt32 = d1.toInt8.toInt32 ↔ c1 = d1 := ⟨lo_inj b1 e1, fun q => by rw [q]⟩
  have i2 : c2.toInt8.toInt32 = d2.toInt8.toInt32 ↔ c2 = d2 := ⟨lo_inj b2 e2, fun q => by rw [q]⟩
  rcases own_4 hn with rfl | rfl | rfl | rfl <;> rcases own_4 hm with rfl | rfl | rfl | rfl <;> simp [strb, same, l01, l02, l03, l12, l13, l23, i0, i1, i2]
theorem own_fin {r s : Int32} {S E : Prop} (hr : (r = 1 ∧ S) ∨ (r = 0 ∧ ¬ S)) (hs : (s = 1 ∧ E) ∨ (s = 0 ∧ ¬ E)) (hSE : S ↔ E) : r = s := by
  rcases hr with ⟨rfl, q1⟩ | ⟨rfl, q1⟩ <;> rcases hs with ⟨rfl, p1⟩ | ⟨rfl, p1⟩ <;> simp_all
theorem own_self {r : Int32} {bs : List Int32} (hr : (r = 1 ∧ bs = bs) ∨ (r = 0 ∧ ¬ bs = bs)) : ¬ r = 0 := by
  rcases hr with ⟨rfl, q1⟩ | ⟨rfl, q1⟩
  · decide
  · exact absurd rfl q1
theorem w3 {a0 : Array Value} {Z : State} (hw : ∀ d ∈ tables_1, d.before a0 Z = true) : ((Jvm.Cond.code ({ cls := "com/example/patience/patience/language/VariableEqualsPinLaw", name := "mk", desc := "(ICCC)Ljava/lang/String;" } : Jvm.MethodName) method_2_code (4 : Nat) (Option.some (Jvm.ClassFile.FieldType.object "java/lang/String")))).before a0 Z = true := hw _ (List.mem_of_getElem? (i := 3) rfl)
theorem w2 {a0 : Array Value} {Z : State} (hw : ∀ d ∈ tables_1, d.before a0 Z = true) : ((Jvm.Cond.initialized "com/example/patience/patience/language/VariableEqualsPinLaw")).before a0 Z = true := hw _ (List.mem_of_getElem? (i := 2) rfl)
theorem pd17 : parseMethodDescriptor "(ICCC)Ljava/lang/String;" = some ⟨[.int, .char, .char, .char], some (.object "java/lang/String")⟩ := by decide +kernel
theorem w0 {a0 : Array Value} {Z : State} (hw : ∀ d ∈ tables_1, d.before a0 Z = true) : ((Jvm.Cond.methodLink "com/example/patience/patience/language/VariableEqualsPinLaw" (12 : Nat) ({ cls := "com/example/patience/patience/language/VariableEqualsPinLaw", name := "mk", desc := "(ICCC)Ljava/lang/String;" } : Jvm.MethodName))).before a0 Z = true := hw _ (List.mem_of_getElem? (i := 0) rfl)
theorem w1 {a0 : Array Value} {Z : State} (hw : ∀ d ∈ tables_1, d.before a0 Z = true) : ((Jvm.Cond.static ({ cls := "com/example/patience/patience/language/VariableEqualsPinLaw", name := "mk", desc := "(ICCC)Ljava/lang/String;" } : Jvm.MethodName))).before a0 Z = true := hw _ (List.mem_of_getElem? (i := 1) rfl)
theorem w26 {a0 : Array Value} {Z : State} (hw : ∀ d ∈ tables_1, d.before a0 Z = true) : ((Jvm.Cond.classLink "com/example/patience/patience/language/VariableEqualsPinLaw" (18 : Nat) "com/example/patience/patience/language/Variable")).before a0 Z = true := hw _ (List.mem_of_getElem? (i := 26) rfl)
theorem w28 {a0 : Array Value} {Z : State} (hw : ∀ d ∈ tables_1, d.before a0 Z = true) : ((Jvm.Cond.initialized "com/example/patience/patience/language/Variable")).before a0 Z = true := hw _ (List.mem_of_getElem? (i := 28) rfl)
theorem w31 {a0 : Array Value} {Z : State} (hw : ∀ d ∈ tables_1, d.before a0 Z = true) : ((Jvm.Cond.code ({ cls := "com/example/patience/patience/language/Variable", name := "<init>", desc := "(Ljava/lang/String;)V" } : Jvm.MethodName) prog_67_method_1_code (2 : Nat) (Option.none : Option Jvm.ClassFile.FieldType))).before a0 Z = true := hw _ (List.mem_of_getElem? (i := 31) rfl)
theorem pd18 : parseMethodDescriptor "(Ljava/lang/String;)V" = some ⟨[(.object "java/lang/String")], none⟩ := by decide +kernel
theorem w29 {a0 : Array Value} {Z : State} (hw : ∀ d ∈ tables_1, d.before a0 Z = true) : ((Jvm.Cond.methodLink "com/example/patience/patience/language/VariableEqualsPinLaw" (20 : Nat) ({ cls := "com/example/patience/patience/language/Variable", name := "<init>", desc := "(Ljava/lang/String;)V" } : Jvm.MethodName))).before a0 Z = true := hw _ (List.mem_of_getElem? (i := 29) rfl)
theorem w30 {a0 : Array Value} {Z : State} (hw : ∀ d ∈ tables_1, d.before a0 Z = true) : ((Jvm.Cond.instanceMethod ({ cls := "com/example/patience/patience/language/Variable", name := "<init>", desc := "(Ljava/lang/String;)V" } : Jvm.MethodName))).before a0 Z = true := hw _ (List.mem_of_getElem? (i := 30) rfl)
theorem w45 {a0 : Array Value} {Z : State} (hw : ∀ d ∈ tables_1, d.before a0 Z = true) : ((Jvm.Cond.code ({ cls := "com/example/patience/patience/language/Variable", name := "equals", desc := "(Ljava/lang/Object;)Z" } : Jvm.MethodName) prog_67_method_7_code (3 : Nat) (Option.some Jvm.ClassFile.FieldType.boolean))).before a0 Z = true := hw _ (List.mem_of_getElem? (i := 45) rfl)
theorem w44 {a0 : Array Value} {Z : State} (hw : ∀ d ∈ tables_1, d.before a0 Z = true) : ((Jvm.Cond.selects "com/example/patience/patience/language/Variable" ({ cls := "com/example/patience/patience/language/Variable", name := "equals", desc := "(Ljava/lang/Object;)Z" } : Jvm.MethodName) ({ cls := "com/example/patience/patience/language/Variable", name := "equals", desc := "(Ljava/lang/Object;)Z" } : Jvm.MethodName))).before a0 Z = true := hw _ (List.mem_of_getElem? (i := 44) rfl)
theorem w43 {a0 : Array Value} {Z : State} (hw : ∀ d ∈ tables_1, d.before a0 Z = true) : ((Jvm.Cond.instanceMethod ({ cls := "com/example/patience/patience/language/Variable", name := "equals", desc := "(Ljava/lang/Object;)Z" } : Jvm.MethodName))).before a0 Z = true := hw _ (List.mem_of_getElem? (i := 43) rfl)
theorem w41 {a0 : Array Value} {Z : State} (hw : ∀ d ∈ tables_1, d.before a0 Z = true) : ((Jvm.Cond.methodLink "com/example/patience/patience/language/VariableEqualsPinLaw" (23 : Nat) ({ cls := "com/example/patience/patience/language/Variable", name := "equals", desc := "(Ljava/lang/Object;)Z" } : Jvm.MethodName))).before a0 Z = true := hw _ (List.mem_of_getElem? (i := 41) rfl)
theorem w42 {a0 : Array Value} {Z : State} (hw : ∀ d ∈ tables_1, d.before a0 Z = true) : ((Jvm.Cond.declares ({ cls := "com/example/patience/patience/language/Variable", name := "equals", desc := "(Ljava/lang/Object;)Z" } : Jvm.MethodName))).before a0 Z = true := hw _ (List.mem_of_getElem? (i := 42) rfl)
theorem w71 {a0 : Array Value} {Z : State} (hw : ∀ d ∈ tables_1, d.before a0 Z = true) : ((Jvm.Cond.classLink "com/example/patience/patience/language/VariableEqualsPinLaw" (27 : Nat) "com/example/patience/patience/language/Action")).before a0 Z = true := hw _ (List.mem_of_getElem? (i := 71) rfl)
theorem w73 {a0 : Array Value} {Z : State} (hw : ∀ d ∈ tables_1, d.before a0 Z = true) : ((Jvm.Cond.initialized "com/example/patience/patience/language/Action")).before a0 Z = true := hw _ (List.mem_of_getElem? (i := 73) rfl)
theorem w76 {a0 : Array Value} {Z : State} (hw : ∀ d ∈ tables_1, d.before a0 Z = true) : ((Jvm.Cond.code ({ cls := "com/example/patience/patience/language/Action", name := "<init>", desc := "(Ljava/lang/String;)V" } : Jvm.MethodName) prog_47_method_1_code (2 : Nat) (Option.none : Option Jvm.ClassFile.FieldType))).before a0 Z = true := hw _ (List.mem_of_getElem? (i := 76) rfl)
theorem w74 {a0 : Array Value} {Z : State} (hw : ∀ d ∈ tables_1, d.before a0 Z = true) : ((Jvm.Cond.methodLink "com/example/patience/patience/language/VariableEqualsPinLaw" (29 : Nat) ({ cls := "com/example/patience/patience/language/Action", name := "<init>", desc := "(Ljava/lang/String;)V" } : Jvm.MethodName))).before a0 Z = true := hw _ (List.mem_of_getElem? (i := 74) rfl)
theorem w75 {a0 : Array Value} {Z : State} (hw : ∀ d ∈ tables_1, d.before a0 Z = true) : ((Jvm.Cond.instanceMethod ({ cls := "com/example/patience/patience/language/Action", name := "<init>", desc := "(Ljava/lang/String;)V" } : Jvm.MethodName))).before a0 Z = true := hw _ (List.mem_of_getElem? (i := 75) rfl)
set_option maxRecDepth 65536 in
set_option maxHeartbeats 40000000 in
theorem rm_law (l : Launch) (Z : State) (a0 : Array Value) (hw : ∀ d ∈ tables_1, d.before a0 Z = true) (ws : List Jvm.Cond) (x0 x1 x2 x3 zc : Int32) (h0 : Heap) (n0 : Nat) (Z0 : n0 ≤ h0.size) (O0 : Old Z n0 h0) (CS : Sta Z Z.heap "java/lang/String" "COMPACT_STRINGS" "Z" (.int zc)) (hz : ¬ zc = 0) :
    ConS l Z EL0 x code maxLocals ret ws room_1 #[(.int x0), (.int x1), (.int x2), (.int x3)] h0 [] (fun v h L => v = some (.int 1) ∧ Fr n0 L) := by
  refine ConS.enter (plainFor_of_name pn15) ?_
  intro p e s m below meth c s₁ X0 hx hZ hby hml hret hlk hown hnm e0 hS hA hsf
  have N0 := Fr.nil n0
  have hEL := hEL0 hw
  have hSt := hSt0 hw
  refine Go.cast (g' := (mkF m 0 #[.val (.int x0), .val (.int x1), .val (.int x2), .val (.int x3), .unset, .unset, .unset, .unset, .unset, .unset, .unset, .unset, .unset, .unset, .unset, .unset, .unset, .unset] [])) (by first | rfl | (simp [entryFrame, mkF, argsToLocals, Value.category, maxLocals]; done)) ?_
  refine Go.st (T' := s₁) (g' := (mkF m 1 #[.val (.int x0), .val (.int x1), .val (.int x2), .val (.int x3), .unset, .unset, .unset, .unset, .unset, .unset, .unset, .unset, .unset, .unset, .unset, .unset, .unset, .unset] [(.int x0)])) (fun _ zk => XS.iloadN X0.here hx rfl (hb hby at_0) rfl zk) ?_
  refine Go.st (T' := s₁) (g' := (mkF m 2 #[.val (.int x0), .val (.int x1), .val (.int x2), .val (.int x3), .unset, .unset, .unset, .unset, .unset, .unset, .unset, .unset, .unset, .unset, .unset, .unset, .unset, .unset] [(.int (3 : Int32)), (.int x0)])) (fun _ zk => XS.iconst X0.here hx rfl (hb hby at_1) zk) ?_
  refine Go.st (T' := s₁) (g' := (mkF m 3 #[.val (.int x0), .val (.int x1), .val (.int x2), .val (.int x3), .unset, .unset, .unset, .unset, .unset, .unset, .unset, .unset, .unset, .unset, .unset, .unset, .unset, .unset] [(.int (x0 &&& (3 : Int32)))])) (fun _ zk => XS.iand X0.here hx rfl (hb hby at_2) rfl zk) ?_
  obtain ⟨n1, hn1⟩ : ∃ z, z = (x0 &&& (3 : Int32)) := ⟨_, rfl⟩
  rw [← hn1]
  have qn1 := own_m4 x0
  rw [← hn1] at qn1
  refine Go.st (T' := s₁) (g' := (mkF m 5 #[.val (.int x0), .val (.int x1), .val (.int x2), .val (.int x3), .val (.int n1), .unset, .unset, .unset, .unset, .unset, .unset, .unset, .unset, .unset, .unset, .unset, .unset, .unset] [])) (fun _ zk => XS.istore X0.here hx rfl (hb hby at_3) rfl (l' := #[.val (.int x0), .val (.int x1), .val (.int x2), .val (.int x3), .val (.int n1), .unset, .unset, .unset, .unset, .unset, .unset, .unset, .unset, .unset, .unset, .unset, .unset, .unset]) rfl zk) ?_
  refine Go.st (T' := s₁) (g' := (mkF m 6 #[.val (.int x0), .val (.int x1), .val (.int x2), .val (.int x3), .val (.int n1), .unset, .unset, .unset, .unset, .unset, .unset, .unset, .unset, .unset, .unset, .unset, .unset, .unset] [(.int x0)])) (fun _ zk => XS.iloadN X0.here hx rfl (hb hby at_5) rfl zk) ?_
  refine Go.st (T' := s₁) (g' := (mkF m 7 #[.val (.int x0), .val (.int x1), .val (.int x2), .val (.int x3), .val (.int n1), .unset, .unset, .unset, .unset, .unset, .unset, .unset, .unset, .unset, .unset, .unset, .unset, .unset] [(.int (2 : Int32)), (.int x0)])) (fun _ zk => XS.iconst X0.here hx rfl (hb hby at_6) zk) ?_
  refine Go.st (T' := s₁) (g' := (mkF m 8 #[.val (.int x0), .val (.int x1), .val (.int x2), .val (.int x3), .val (.int n1), .unset, .unset, .unset, .unset, .unset, .unset, .unset, .unset, .unset, .unset, .unset, .unset, .unset] [(.int ((x0.toUInt32 >>> ((2 : Int32) &&& 31).toUInt32).toInt32))])) (fun _ zk => XS.iushr X0.here hx rfl (hb hby at_7) rfl zk) ?_
  refine Go.st (T' := s₁) (g' := (mkF m 9 #[.val (.int x0), .val (.int x1), .val (.int x2), .val (.int x3), .val (.int n1), .unset, .unset, .unset, .unset, .unset, .unset, .unset, .unset, .unset, .unset, .unset, .unset, .unset] [(.int (3 : Int32)), (.int ((x0.toUInt32 >>> ((2 : Int32) &&& 31).toUInt32).toInt32))])) (fun _ zk => XS.iconst X0.here hx rfl (hb hby at_8) zk) ?_
  refine Go.st (T' := s₁) (g' := (mkF m 10 #[.val (.int x0), .val (.int x1), .val (.int x2), .val (.int x3), .val (.int n1), .unset, .unset, .unset, .unset, .unset, .unset, .unset, .unset, .unset, .unset, .unset, .unset, .unset] [(.int (((x0.toUInt32 >>> ((2 : Int32) &&& 31).toUInt32).toInt32) &&& (3 : Int32)))])) (fun _ zk => XS.iand X0.here hx rfl (hb hby at_9) rfl zk) ?_
  obtain ⟨n2, hn2⟩ : ∃ z, z = (((x0.toUInt32 >>> ((2 : Int32) &&& 31).toUInt32).toInt32) &&& (3 : Int32)) := ⟨_, rfl⟩
  rw [← hn2]
  have qn2 := own_m4 ((x0.toUInt32 >>> ((2 : Int32) &&& 31).toUInt32).toInt32)
  rw [← hn2] at qn2
  refine Go.st (T' := s₁) (g' := (mkF m 12 #[.val (.int x0), .val (.int x1), .val (.int x2), .val (.int x3), .val (.int n1), .val (.int n2), .unset, .unset, .unset, .unset, .unset, .unset, .unset, .unset, .unset, .unset, .unset, .unset] [])) (fun _ zk => XS.istore X0.here hx rfl (hb hby at_10) rfl (l' := #[.val (.int x0), .val (.int x1), .val (.int x2), .val (.int x3), .val (.int n1), .val (.int n2), .unset, .unset, .unset, .unset, .unset, .unset, .unset, .unset, .unset, .unset, .unset, .unset]) rfl zk) ?_
  refine Go.st (T' := s₁) (g' := (mkF m 13 #[.val (.int x0), .val (.int x1), .val (.int x2), .val (.int x3), .val (.int n1), .val (.int n2), .unset, .unset, .unset, .unset, .unset, .unset, .unset, .unset, .unset, .unset, .unset, .unset] [(.int x1)])) (fun _ zk => XS.iloadN X0.here hx rfl (hb hby at_12) rfl zk) ?_
  refine Go.st (T' := s₁) (g' := (mkF m 16 #[.val (.int x0), .val (.int x1), .val (.int x2), .val (.int x3), .val (.int n1), .val (.int n2), .unset, .unset, .unset, .unset, .unset, .unset, .unset, .unset, .unset, .unset, .unset, .unset] [(.int (255 : Int32)), (.int x1)])) (fun _ zk => XS.sipush X0.here hx rfl (hb hby at_13) zk) ?_
  refine Go.st (T' := s₁) (g' := (mkF m 17 #[.val (.int x0), .val (.int x1), .val (.int x2), .val (.int x3), .val (.int n1), .val (.int n2), .unset, .unset, .unset, .unset, .unset, .unset, .unset, .unset, .unset, .unset, .unset, .unset] [(.int (x1 &&& (255 : Int32)))])) (fun _ zk => XS.iand X0.here hx rfl (hb hby at_16) rfl zk) ?_
  refine Go.st (T' := s₁) (g' := (mkF m 18 #[.val (.int x0), .val (.int x1), .val (.int x2), .val (.int x3), .val (.int n1), .val (.int n2), .unset, .unset, .unset, .unset, .unset, .unset, .unset, .unset, .unset, .unset, .unset, .unset] [(.int ((x1 &&& (255 : Int32)).toUInt32.toUInt16.toUInt32.toInt32))])) (fun _ zk => XS.i2c X0.here hx rfl (hb hby at_17) rfl zk) ?_
  obtain ⟨c0, hc0⟩ : ∃ z, z = ((x1 &&& (255 : Int32)).toUInt32.toUInt16.toUInt32.toInt32) := ⟨_, rfl⟩
  rw [← hc0]
  have qc0 := and255 x1
  rw [← hc0] at qc0
  refine Go.st (T' := s₁) (g' := (mkF m 20 #[.val (.int x0), .val (.int x1), .val (.int x2), .val (.int x3), .val (.int n1), .val (.int n2), .val (.int c0), .unset, .unset, .unset, .unset, .unset, .unset, .unset, .unset, .unset, .unset, .unset] [])) (fun _ zk => XS.istore X0.here hx rfl (hb hby at_18) rfl (l' := #[.val (.int x0), .val (.int x1), .val (.int x2), .val (.int x3), .val (.int n1), .val (.int n2), .val (.int c0), .unset, .unset, .unset, .unset, .unset, .unset, .unset, .unset, .unset, .unset, .unset]) rfl zk) ?_
  refine Go.st (T' := s₁) (g' := (mkF m 21 #[.val (.int x0), .val (.int x1), .val (.int x2), .val (.int x3), .val (.int n1), .val (.int n2), .val (.int c0), .unset, .unset, .unset, .unset, .unset, .unset, .unset, .unset, .unset, .unset, .unset] [(.int x1)])) (fun _ zk => XS.iloadN X0.here hx rfl (hb hby at_20) rfl zk) ?_
  refine Go.st (T' := s₁) (g' := (mkF m 23 #[.val (.int x0), .val (.int x1), .val (.int x2), .val (.int x3), .val (.int n1), .val (.int n2), .val (.int c0), .unset, .unset, .unset, .unset, .unset, .unset, .unset, .unset, .unset, .unset, .unset] [(.int (8 : Int32)), (.int x1)])) (fun _ zk => XS.bipush X0.here hx rfl (hb hby at_21) zk) ?_
  refine Go.st (T' := s₁) (g' := (mkF m 24 #[.val (.int x0), .val (.int x1), .val (.int x2), .val (.int x3), .val (.int n1), .val (.int n2), .val (.int c0), .unset, .unset, .unset, .unset, .unset, .unset, .unset, .unset, .unset, .unset, .unset] [(.int ((x1.toUInt32 >>> ((8 : Int32) &&& 31).toUInt32).toInt32))])) (fun _ zk => XS.iushr X0.here hx rfl (hb hby at_23) rfl zk) ?_
  refine Go.st (T' := s₁) (g' := (mkF m 27 #[.val (.int x0), .val (.int x1), .val (.int x2), .val (.int x3), .val (.int n1), .val (.int n2), .val (.int c0), .unset, .unset, .unset, .unset, .unset, .unset, .unset, .unset, .unset, .unset, .unset] [(.int (255 : Int32)), (.int ((x1.toUInt32 >>> ((8 : Int32) &&& 31).toUInt32).toInt32))])) (fun _ zk => XS.sipush X0.here hx rfl (hb hby at_24) zk) ?_
  refine Go.st (T' := s₁) (g' := (mkF m 28 #[.val (.int x0), .val (.int x1), .val (.int x2), .val (.int x3), .val (.int n1), .val (.int n2), .val (.int c0), .unset, .unset, .unset, .unset, .unset, .unset, .unset, .unset, .unset, .unset, .unset] [(.int (((x1.toUInt32 >>> ((8 : Int32) &&& 31).toUInt32).toInt32) &&& (255 : Int32)))])) (fun _ zk => XS.iand X0.here hx rfl (hb hby at_27) rfl zk) ?_
  refine Go.st (T' := s₁) (g' := (mkF m 29 #[.val (.int x0), .val (.int x1), .val (.int x2), .val (.int x3), .val (.int n1), .val (.int n2), .val (.int c0), .unset, .unset, .unset, .unset, .unset, .unset, .unset, .unset, .unset, .unset, .unset] [(.int ((((x1.toUInt32 >>> ((8 : Int32) &&& 31).toUInt32).toInt32) &&& (255 : Int32)).toUInt32.toUInt16.toUInt32.toInt32))])) (fun _ zk => XS.i2c X0.here hx rfl (hb hby at_28) rfl zk) ?_
  obtain ⟨c1, hc1⟩ : ∃ z, z = ((((x1.toUInt32 >>> ((8 : Int32) &&& 31).toUInt32).toInt32) &&& (255 : Int32)).toUInt32.toUInt16.toUInt32.toInt32) := ⟨_, rfl⟩
  rw [← hc1]
  have qc1 := and255 ((x1.toUInt32 >>> ((8 : Int32) &&& 31).toUInt32).toInt32)
  rw [← hc1] at qc1
  refine Go.st (T' := s₁) (g' := (mkF m 31 #[.val (.int x0), .val (.int x1), .val (.int x2), .val (.int x3), .val (.int n1), .val (.int n2), .val (.int c0), .val (.int c1), .unset, .unset, .unset, .unset, .unset, .unset, .unset, .unset, .unset, .unset] [])) (fun _ zk => XS.istore X0.here hx rfl (hb hby at_29) rfl (l' := #[.val (.int x0), .val (.int x1), .val (.int x2), .val (.int x3), .val (.int n1), .val (.int n2), .val (.int c0), .val (.int c1), .unset, .unset, .unset, .unset, .unset, .unset, .unset, .unset, .unset, .unset]) rfl zk) ?_
  refine Go.st (T' := s₁) (g' := (mkF m 32 #[.val (.int x0), .val (.int x1), .val (.int x2), .val (.int x3), .val (.int n1), .val (.int n2), .val (.int c0), .val (.int c1), .unset, .unset, .unset, .unset, .unset, .unset, .unset, .unset, .unset, .unset] [(.int x1)])) (fun _ zk => XS.iloadN X0.here hx rfl (hb hby at_31) rfl zk) ?_
  refine Go.st (T' := s₁) (g' := (mkF m 34 #[.val (.int x0), .val (.int x1), .val (.int x2), .val (.int x3), .val (.int n1), .val (.int n2), .val (.int c0), .val (.int c1), .unset, .unset, .unset, .unset, .unset, .unset, .unset, .unset, .unset, .unset] [(.int (16 : Int32)), (.int x1)])) (fun _ zk => XS.bipush X0.here hx rfl (hb hby at_32) zk) ?_
  refine Go.st (T' := s₁) (g' := (mkF m 35 #[.val (.int x0), .val (.int x1), .val (.int x2), .val (.int x3), .val (.int n1), .val (.int n2), .val (.int c0), .val (.int c1), .unset, .unset, .unset, .unset, .unset, .unset, .unset, .unset, .unset, .unset] [(.int ((x1.toUInt32 >>> ((16 : Int32) &&& 31).toUInt32).toInt32))])) (fun _ zk => XS.iushr X0.here hx rfl (hb hby at_34) rfl zk) ?_
  refine Go.st (T' := s₁) (g' := (mkF m 38 #[.val (.int x0), .val (.int x1), .val (.int x2), .val (.int x3), .val (.int n1), .val (.int n2), .val (.int c0), .val (.int c1), .unset, .unset, .unset, .unset, .unset, .unset, .unset, .unset, .unset, .unset] [(.int (255 : Int32)), (.int ((x1.toUInt32 >>> ((16 : Int32) &&& 31).toUInt32).toInt32))])) (fun _ zk => XS.sipush X0.here hx rfl (hb hby at_35) zk) ?_
  refine Go.st (T' := s₁) (g' := (mkF m 39 #[.val (.int x0), .val (.int x1), .val (.int x2), .val (.int x3), .val (.int n1), .val (.int n2), .val (.int c0), .val (.int c1), .unset, .unset, .unset, .unset, .unset, .unset, .unset, .unset, .unset, .unset] [(.int (((x1.toUInt32 >>> ((16 : Int32) &&& 31).toUInt32).toInt32) &&& (255 : Int32)))])) (fun _ zk => XS.iand X0.here hx rfl (hb hby at_38) rfl zk) ?_
  refine Go.st (T' := s₁) (g' := (mkF m 40 #[.val (.int x0), .val (.int x1), .val (.int x2), .val (.int x3), .val (.int n1), .val (.int n2), .val (.int c0), .val (.int c1), .unset, .unset, .unset, .unset, .unset, .unset, .unset, .unset, .unset, .unset] [(.int ((((x1.toUInt32 >>> ((16 : Int32) &&& 31).toUInt32).toInt32) &&& (255 : Int32)).toUInt32.toUInt16.toUInt32.toInt32))])) (fun _ zk => XS.i2c X0.here hx rfl (hb hby at_39) rfl zk) ?_
  obtain ⟨c2, hc2⟩ : ∃ z, z = ((((x1.toUInt32 >>> ((16 : Int32) &&& 31).toUInt32).toInt32) &&& (255 : Int32)).toUInt32.toUInt16.toUInt32.toInt32) := ⟨_, rfl⟩
  rw [← hc2]
  have qc2 := and255 ((x1.toUInt32 >>> ((16 : Int32) &&& 31).toUInt32).toInt32)
  rw [← hc2] at qc2
  refine Go.st (T' := s₁) (g' := (mkF m 42 #[.val (.int x0), .val (.int x1), .val (.int x2), .val (.int x3), .val (.int n1), .val (.int n2), .val (.int c0), .val (.int c1), .val (.int c2), .unset, .unset, .unset, .unset, .unset, .unset, .unset, .unset, .unset] [])) (fun _ zk => XS.istore X0.here hx rfl (hb hby at_40) rfl (l' := #[.val (.int x0), .val (.int x1), .val (.int x2), .val (.int x3), .val (.int n1), .val (.int n2), .val (.int c0), .val (.int c1), .val (.int c2), .unset, .unset, .unset, .unset, .unset, .unset, .unset, .unset, .unset]) rfl zk) ?_
  refine Go.st (T' := s₁) (g' := (mkF m 44 #[.val (.int x0), .val (.int x1), .val (.int x2), .val (.int x3), .val (.int n1), .val (.int n2), .val (.int c0), .val (.int c1), .val (.int c2), .unset, .unset, .unset, .unset, .unset, .unset, .unset, .unset, .unset] [(.int c0)])) (fun _ zk => XS.iload X0.here hx rfl (hb hby at_42) rfl zk) ?_
  refine Go.st (T' := s₁) (g' := (mkF m 45 #[.val (.int x0), .val (.int x1), .val (.int x2), .val (.int x3), .val (.int n1), .val (.int n2), .val (.int c0), .val (.int c1), .val (.int c2), .unset, .unset, .unset, .unset, .unset, .unset, .unset, .unset, .unset] [(.int x2), (.int c0)])) (fun _ zk => XS.iloadN X0.here hx rfl (hb hby at_44) rfl zk) ?_
  refine Go.st (T' := s₁) (g' := (mkF m 46 #[.val (.int x0), .val (.int x1), .val (.int x2), .val (.int x3), .val (.int n1), .val (.int n2), .val (.int c0), .val (.int c1), .val (.int c2), .unset, .unset, .unset, .unset, .unset, .unset, .unset, .unset, .unset] [(.int (c0 ^^^ x2))])) (fun _ zk => XS.ixor X0.here hx rfl (hb hby at_45) rfl zk) ?_
  refine Go.st (T' := s₁) (g' := (mkF m 49 #[.val (.int x0), .val (.int x1), .val (.int x2), .val (.int x3), .val (.int n1), .val (.int n2), .val (.int c0), .val (.int c1), .val (.int c2), .unset, .unset, .unset, .unset, .unset, .unset, .unset, .unset, .unset] [(.int (255 : Int32)), (.int (c0 ^^^ x2))])) (fun _ zk => XS.sipush X0.here hx rfl (hb hby at_46) zk) ?_
  refine Go.st (T' := s₁) (g' := (mkF m 50 #[.val (.int x0), .val (.int x1), .val (.int x2), .val (.int x3), .val (.int n1), .val (.int n2), .val (.int c0), .val (.int c1), .val (.int c2), .unset, .unset, .unset, .unset, .unset, .unset, .unset, .unset, .unset] [(.int ((c0 ^^^ x2) &&& (255 : Int32)))])) (fun _ zk => XS.iand X0.here hx rfl (hb hby at_49) rfl zk) ?_
  refine Go.st (T' := s₁) (g' := (mkF m 51 #[.val (.int x0), .val (.int x1), .val (.int x2), .val (.int x3), .val (.int n1), .val (.int n2), .val (.int c0), .val (.int c1), .val (.int c2), .unset, .unset, .unset, .unset, .unset, .unset, .unset, .unset, .unset] [(.int (((c0 ^^^ x2) &&& (255 : Int32)).toUInt32.toUInt16.toUInt32.toInt32))])) (fun _ zk => XS.i2c X0.here hx rfl (hb hby at_50) rfl zk) ?_
  obtain ⟨d0, hd0⟩ : ∃ z, z = (((c0 ^^^ x2) &&& (255 : Int32)).toUInt32.toUInt16.toUInt32.toInt32) := ⟨_, rfl⟩
  rw [← hd0]
  have qd0 := and255 (c0 ^^^ x2)
  rw [← hd0] at qd0
  refine Go.st (T' := s₁) (g' := (mkF m 53 #[.val (.int x0), .val (.int x1), .val (.int x2), .val (.int x3), .val (.int n1), .val (.int n2), .val (.int c0), .val (.int c1), .val (.int c2), .val (.int d0), .unset, .unset, .unset, .unset, .unset, .unset, .unset, .unset] [])) (fun _ zk => XS.istore X0.here hx rfl (hb hby at_51) rfl (l' := #[.val (.int x0), .val (.int x1), .val (.int x2), .val (.int x3), .val (.int n1), .val (.int n2), .val (.int c0), .val (.int c1), .val (.int c2), .val (.int d0), .unset, .unset, .unset, .unset, .unset, .unset, .unset, .unset]) rfl zk) ?_
  refine Go.st (T' := s₁) (g' := (mkF m 55 #[.val (.int x0), .val (.int x1), .val (.int x2), .val (.int x3), .val (.int n1), .val (.int n2), .val (.int c0), .val (.int c1), .val (.int c2), .val (.int d0), .unset, .unset, .unset, .unset, .unset, .unset, .unset, .unset] [(.int c1)])) (fun _ zk => XS.iload X0.here hx rfl (hb hby at_53) rfl zk) ?_
  refine Go.st (T' := s₁) (g' := (mkF m 56 #[.val (.int x0), .val (.int x1), .val (.int x2), .val (.int x3), .val (.int n1), .val (.int n2), .val (.int c0), .val (.int c1), .val (.int c2), .val (.int d0), .unset, .unset, .unset, .unset, .unset, .unset, .unset, .unset] [(.int x2), (.int c1)])) (fun _ zk => XS.iloadN X0.here hx rfl (hb hby at_55) rfl zk) ?_
  refine Go.st (T' := s₁) (g' := (mkF m 58 #[.val (.int x0), .val (.int x1), .val (.int x2), .val (.int x3), .val (.int n1), .val (.int n2), .val (.int c0), .val (.int c1), .val (.int c2), .val (.int d0), .unset, .unset, .unset, .unset, .unset, .unset, .unset, .unset] [(.int (8 : Int32)), (.int x2), (.int c1)])) (fun _ zk => XS.bipush X0.here hx rfl (hb hby at_56) zk) ?_
  refine Go.st (T' := s₁) (g' := (mkF m 59 #[.val (.int x0), .val (.int x1), .val (.int x2), .val (.int x3), .val (.int n1), .val (.int n2), .val (.int c0), .val (.int c1), .val (.int c2), .val (.int d0), .unset, .unset, .unset, .unset, .unset, .unset, .unset, .unset] [(.int ((x2.toUInt32 >>> ((8 : Int32) &&& 31).toUInt32).toInt32)), (.int c1)])) (fun _ zk => XS.iushr X0.here hx rfl (hb hby at_58) rfl zk) ?_
  refine Go.st (T' := s₁) (g' := (mkF m 60 #[.val (.int x0), .val (.int x1), .val (.int x2), .val (.int x3), .val (.int n1), .val (.int n2), .val (.int c0), .val (.int c1), .val (.int c2), .val (.int d0), .unset, .unset, .unset, .unset, .unset, .unset, .unset, .unset] [(.int (c1 ^^^ ((x2.toUInt32 >>> ((8 : Int32) &&& 31).toUInt32).toInt32)))])) (fun _ zk => XS.ixor X0.here hx rfl (hb hby at_59) rfl zk) ?_
  refine Go.st (T' := s₁) (g' := (mkF m 63 #[.val (.int x0), .val (.int x1), .val (.int x2), .val (.int x3), .val (.int n1), .val (.int n2), .val (.int c0), .val (.int c1), .val (.int c2), .val (.int d0), .unset, .unset, .unset, .unset, .unset, .unset, .unset, .unset] [(.int (255 : Int32)), (.int (c1 ^^^ ((x2.toUInt32 >>> ((8 : Int32) &&& 31).toUInt32).toInt32)))])) (fun _ zk => XS.sipush X0.here hx rfl (hb hby at_60) zk) ?_
  refine Go.st (T' := s₁) (g' := (mkF m 64 #[.val (.int x0), .val (.int x1), .val (.int x2), .val (.int x3), .val (.int n1), .val (.int n2), .val (.int c0), .val (.int c1), .val (.int c2), .val (.int d0), .unset, .unset, .unset, .unset, .unset, .unset, .unset, .unset] [(.int ((c1 ^^^ ((x2.toUInt32 >>> ((8 : Int32) &&& 31).toUInt32).toInt32)) &&& (255 : Int32)))])) (fun _ zk => XS.iand X0.here hx rfl (hb hby at_63) rfl zk) ?_
  refine Go.st (T' := s₁) (g' := (mkF m 65 #[.val (.int x0), .val (.int x1), .val (.int x2), .val (.int x3), .val (.int n1), .val (.int n2), .val (.int c0), .val (.int c1), .val (.int c2), .val (.int d0), .unset, .unset, .unset, .unset, .unset, .unset, .unset, .unset] [(.int (((c1 ^^^ ((x2.toUInt32 >>> ((8 : Int32) &&& 31).toUInt32).toInt32)) &&& (255 : Int32)).toUInt32.toUInt16.toUInt32.toInt32))])) (fun _ zk => XS.i2c X0.here hx rfl (hb hby at_64) rfl zk) ?_
  obtain ⟨d1, hd1⟩ : ∃ z, z = (((c1 ^^^ ((x2.toUInt32 >>> ((8 : Int32) &&& 31).toUInt32).toInt32)) &&& (255 : Int32)).toUInt32.toUInt16.toUInt32.toInt32) := ⟨_, rfl⟩
  rw [← hd1]
  have qd1 := and255 (c1 ^^^ ((x2.toUInt32 >>> ((8 : Int32) &&& 31).toUInt32).toInt32))
  rw [← hd1] at qd1
  refine Go.st (T' := s₁) (g' := (mkF m 67 #[.val (.int x0), .val (.int x1), .val (.int x2), .val (.int x3), .val (.int n1), .val (.int n2), .val (.int c0), .val (.int c1), .val (.int c2), .val (.int d0), .val (.int d1), .unset, .unset, .unset, .unset, .unset, .unset, .unset] [])) (fun _ zk => XS.istore X0.here hx rfl (hb hby at_65) rfl (l' := #[.val (.int x0), .val (.int x1), .val (.int x2), .val (.int x3), .val (.int n1), .val (.int n2), .val (.int c0), .val (.int c1), .val (.int c2), .val (.int d0), .val (.int d1), .unset, .unset, .unset, .unset, .unset, .unset, .unset]) rfl zk) ?_
  refine Go.st (T' := s₁) (g' := (mkF m 69 #[.val (.int x0), .val (.int x1), .val (.int x2), .val (.int x3), .val (.int n1), .val (.int n2), .val (.int c0), .val (.int c1), .val (.int c2), .val (.int d0), .val (.int d1), .unset, .unset, .unset, .unset, .unset, .unset, .unset] [(.int c2)])) (fun _ zk => XS.iload X0.here hx rfl (hb hby at_67) rfl zk) ?_
  refine Go.st (T' := s₁) (g' := (mkF m 70 #[.val (.int x0), .val (.int x1), .val (.int x2), .val (.int x3), .val (.int n1), .val (.int n2), .val (.int c0), .val (.int c1), .val (.int c2), .val (.int d0), .val (.int d1), .unset, .unset, .unset, .unset, .unset, .unset, .unset] [(.int x2), (.int c2)])) (fun _ zk => XS.iloadN X0.here hx rfl (hb hby at_69) rfl zk) ?_
  refine Go.st (T' := s₁) (g' := (mkF m 72 #[.val (.int x0), .val (.int x1), .val (.int x2), .val (.int x3), .val (.int n1), .val (.int n2), .val (.int c0), .val (.int c1), .val (.int c2), .val (.int d0), .val (.int d1), .unset, .unset, .unset, .unset, .unset, .unset, .unset] [(.int (16 : Int32)), (.int x2), (.int c2)])) (fun _ zk => XS.bipush X0.here hx rfl (hb hby at_70) zk) ?_
  refine Go.st (T' := s₁) (g' := (mkF m 73 #[.val (.int x0), .val (.int x1), .val (.int x2), .val (.int x3), .val (.int n1), .val (.int n2), .val (.int c0), .val (.int c1), .val (.int c2), .val (.int d0), .val (.int d1), .unset, .unset, .unset, .unset, .unset, .unset, .unset] [(.int ((x2.toUInt32 >>> ((16 : Int32) &&& 31).toUInt32).toInt32)), (.int c2)])) (fun _ zk => XS.iushr X0.here hx rfl (hb hby at_72) rfl zk) ?_
  refine Go.st (T' := s₁) (g' := (mkF m 74 #[.val (.int x0), .val (.int x1), .val (.int x2), .val (.int x3), .val (.int n1), .val (.int n2), .val (.int c0), .val (.int c1), .val (.int c2), .val (.int d0), .val (.int d1), .unset, .unset, .unset, .unset, .unset, .unset, .unset] [(.int (c2 ^^^ ((x2.toUInt32 >>> ((16 : Int32) &&& 31).toUInt32).toInt32)))])) (fun _ zk => XS.ixor X0.here hx rfl (hb hby at_73) rfl zk) ?_
  refine Go.st (T' := s₁) (g' := (mkF m 77 #[.val (.int x0), .val (.int x1), .val (.int x2), .val (.int x3), .val (.int n1), .val (.int n2), .val (.int c0), .val (.int c1), .val (.int c2), .val (.int d0), .val (.int d1), .unset, .unset, .unset, .unset, .unset, .unset, .unset] [(.int (255 : Int32)), (.int (c2 ^^^ ((x2.toUInt32 >>> ((16 : Int32) &&& 31).toUInt32).toInt32)))])) (fun _ zk => XS.sipush X0.here hx rfl (hb hby at_74) zk) ?_
  refine Go.st (T' := s₁) (g' := (mkF m 78 #[.val (.int x0), .val (.int x1), .val (.int x2), .val (.int x3), .val (.int n1), .val (.int n2), .val (.int c0), .val (.int c1), .val (.int c2), .val (.int d0), .val (.int d1), .unset, .unset, .unset, .unset, .unset, .unset, .unset] [(.int ((c2 ^^^ ((x2.toUInt32 >>> ((16 : Int32) &&& 31).toUInt32).toInt32)) &&& (255 : Int32)))])) (fun _ zk => XS.iand X0.here hx rfl (hb hby at_77) rfl zk) ?_
  refine Go.st (T' := s₁) (g' := (mkF m 79 #[.val (.int x0), .val (.int x1), .val (.int x2), .val (.int x3), .val (.int n1), .val (.int n2), .val (.int c0), .val (.int c1), .val (.int c2), .val (.int d0), .val (.int d1), .unset, .unset, .unset, .unset, .unset, .unset, .unset] [(.int (((c2 ^^^ ((x2.toUInt32 >>> ((16 : Int32) &&& 31).toUInt32).toInt32)) &&& (255 : Int32)).toUInt32.toUInt16.toUInt32.toInt32))])) (fun _ zk => XS.i2c X0.here hx rfl (hb hby at_78) rfl zk) ?_
  obtain ⟨d2, hd2⟩ : ∃ z, z = (((c2 ^^^ ((x2.toUInt32 >>> ((16 : Int32) &&& 31).toUInt32).toInt32)) &&& (255 : Int32)).toUInt32.toUInt16.toUInt32.toInt32) := ⟨_, rfl⟩
  rw [← hd2]
  have qd2 := and255 (c2 ^^^ ((x2.toUInt32 >>> ((16 : Int32) &&& 31).toUInt32).toInt32))
  rw [← hd2] at qd2
  refine Go.st (T' := s₁) (g' := (mkF m 81 #[.val (.int x0), .val (.int x1), .val (.int x2), .val (.int x3), .val (.int n1), .val (.int n2), .val (.int c0), .val (.int c1), .val (.int c2), .val (.int d0), .val (.int d1), .val (.int d2), .unset, .unset, .unset, .unset, .unset, .unset] [])) (fun _ zk => XS.istore X0.here hx rfl (hb hby at_79) rfl (l' := #[.val (.int x0), .val (.int x1), .val (.int x2), .val (.int x3), .val (.int n1), .val (.int n2), .val (.int c0), .val (.int c1), .val (.int c2), .val (.int d0), .val (.int d1), .val (.int d2), .unset, .unset, .unset, .unset, .unset, .unset]) rfl zk) ?_
  refine Go.st (T' := s₁) (g' := (mkF m 83 #[.val (.int x0), .val (.int x1), .val (.int x2), .val (.int x3), .val (.int n1), .val (.int n2), .val (.int c0), .val (.int c1), .val (.int c2), .val (.int d0), .val (.int d1), .val (.int d2), .unset, .unset, .unset, .unset, .unset, .unset] [(.int n1)])) (fun _ zk => XS.iload X0.here hx rfl (hb hby at_81) rfl zk) ?_
  refine Go.st (T' := s₁) (g' := (mkF m 85 #[.val (.int x0), .val (.int x1), .val (.int x2), .val (.int x3), .val (.int n1), .val (.int n2), .val (.int c0), .val (.int c1), .val (.int c2), .val (.int d0), .val (.int d1), .val (.int d2), .unset, .unset, .unset, .unset, .unset, .unset] [(.int c0), (.int n1)])) (fun _ zk => XS.iload X0.here hx rfl (hb hby at_83) rfl zk) ?_
  refine Go.st (T' := s₁) (g' := (mkF m 87 #[.val (.int x0), .val (.int x1), .val (.int x2), .val (.int x3), .val (.int n1), .val (.int n2), .val (.int c0), .val (.int c1), .val (.int c2), .val (.int d0), .val (.int d1), .val (.int d2), .unset, .unset, .unset, .unset, .unset, .unset] [(.int c1), (.int c0), (.int n1)])) (fun _ zk => XS.iload X0.here hx rfl (hb hby at_85) rfl zk) ?_
  refine Go.st (T' := s₁) (g' := (mkF m 89 #[.val (.int x0), .val (.int x1), .val (.int x2), .val (.int x3), .val (.int n1), .val (.int n2), .val (.int c0), .val (.int c1), .val (.int c2), .val (.int d0), .val (.int d1), .val (.int d2), .unset, .unset, .unset, .unset, .unset, .unset] [(.int c2), (.int c1), (.int c0), (.int n1)])) (fun _ zk => XS.iload X0.here hx rfl (hb hby at_87) rfl zk) ?_
  refine Go.callStS (y := (⟨"com/example/patience/patience/language/VariableEqualsPinLaw", "mk", "(ICCC)Ljava/lang/String;"⟩ : MethodName)) X0 hx hZ hown e0 hEL hA.1 hS (Nat.zero_le _) (w0 hw) (w1 hw) (w2 hw) (w3 hw) (by decide) (argsL := [(.int n1), (.int c0), (.int c1), (.int c2)]) (rest := []) (W := 0) (rm_mk l Z a0 hw [] n1 c0 c1 c2 zc h0 n0 Z0 O0 CS hz qc0 qc1 qc2) all0 rfl (lenOf pd17 rfl) rfl (by rw [hml]; rfl) rfl (by show 2 * 0 + _ ≤ _; exact Nat.le_of_eq rfl) (by decide) (by decide) (by decide) (by decide) (hb hby at_89) ?_
  intro v1 T1 h1 L1 X1 e1 q1 hS hZ hown cr1
  obtain ⟨a1, hv1, Nf1, E1, S1⟩ := q1
  subst hv1
  have N1 := Fr.app N0 Nf1
  have ca2 := hA.trans cr1
  show Go p.tables e below _ T1 (mkF m 92 #[.val (.int x0), .val (.int x1), .val (.int x2), .val (.int x3), .val (.int n1), .val (.int n2), .val (.int c0), .val (.int c1), .val (.int c2), .val (.int d0), .val (.int d1), .val (.int d2), .unset, .unset, .unset, .unset, .unset, .unset] [(.ref a1)])
  refine Go.st (T' := T1) (g' := (mkF m 94 #[.val (.int x0), .val (.int x1), .val (.int x2), .val (.int x3), .val (.int n1), .val (.int n2), .val (.int c0), .val (.int c1), .val (.int c2), .val (.int d0), .val (.int d1), .val (.int d2), .val (.ref a1), .unset, .unset, .unset, .unset, .unset] [])) (fun _ zk => XS.astore X1.here hx rfl (hb hby at_92) rfl rfl (l' := #[.val (.int x0), .val (.int x1), .val (.int x2), .val (.int x3), .val (.int n1), .val (.int n2), .val (.int c0), .val (.int c1), .val (.int c2), .val (.int d0), .val (.int d1), .val (.int d2), .val (.ref a1), .unset, .unset, .unset, .unset, .unset]) rfl zk) ?_
  refine Go.st (T' := T1) (g' := (mkF m 96 #[.val (.int x0), .val (.int x1), .val (.int x2), .val (.int x3), .val (.int n1), .val (.int n2), .val (.int c0), .val (.int c1), .val (.int c2), .val (.int d0), .val (.int d1), .val (.int d2), .val (.ref a1), .unset, .unset, .unset, .unset, .unset] [(.int n2)])) (fun _ zk => XS.iload X1.here hx rfl (hb hby at_94) rfl zk) ?_
  refine Go.st (T' := T1) (g' := (mkF m 98 #[.val (.int x0), .val (.int x1), .val (.int x2), .val (.int x3), .val (.int n1), .val (.int n2), .val (.int c0), .val (.int c1), .val (.int c2), .val (.int d0), .val (.int d1), .val (.int d2), .val (.ref a1), .unset, .unset, .unset, .unset, .unset] [(.int d0), (.int n2)])) (fun _ zk => XS.iload X1.here hx rfl (hb hby at_96) rfl zk) ?_
  refine Go.st (T' := T1) (g' := (mkF m 100 #[.val (.int x0), .val (.int x1), .val (.int x2), .val (.int x3), .val (.int n1), .val (.int n2), .val (.int c0), .val (.int c1), .val (.int c2), .val (.int d0), .val (.int d1), .val (.int d2), .val (.ref a1), .unset, .unset, .unset, .unset, .unset] [(.int d1), (.int d0), (.int n2)])) (fun _ zk => XS.iload X1.here hx rfl (hb hby at_98) rfl zk) ?_
  refine Go.st (T' := T1) (g' := (mkF m 102 #[.val (.int x0), .val (.int x1), .val (.int x2), .val (.int x3), .val (.int n1), .val (.int n2), .val (.int c0), .val (.int c1), .val (.int c2), .val (.int d0), .val (.int d1), .val (.int d2), .val (.ref a1), .unset, .unset, .unset, .unset, .unset] [(.int d2), (.int d1), (.int d0), (.int n2)])) (fun _ zk => XS.iload X1.here hx rfl (hb hby at_100) rfl zk) ?_
  have x4 : Ext h0 h1 := E1
  have f5 := O0.ext x4
  refine Go.callStS (y := (⟨"com/example/patience/patience/language/VariableEqualsPinLaw", "mk", "(ICCC)Ljava/lang/String;"⟩ : MethodName)) X1 hx hZ hown e1 hEL ca2.1 hS (Nat.le_refl _) (w0 hw) (w1 hw) (w2 hw) (w3 hw) (by decide) (argsL := [(.int n2), (.int d0), (.int d1), (.int d2)]) (rest := []) (W := 0) (rm_mk l Z a0 hw [] n2 d0 d1 d2 zc h1 n0 (Nat.le_trans Z0 E1.1) f5 CS hz qd0 qd1 qd2) all0 rfl (lenOf pd17 rfl) rfl (by rw [hml]; rfl) rfl (by show 2 * 0 + _ ≤ _; exact Nat.le_of_eq rfl) (by decide) (by decide) (by decide) (by decide) (hb hby at_102) ?_
  intro v3 T3 h3 L3 X3 e3 q3 hS hZ hown cr3
  obtain ⟨a3, hv3, Nf3, E3, S3⟩ := q3
  subst hv3
  have N3 := Fr.app N1 Nf3
  have ca6 := ca2.trans cr3
  show Go p.tables e below _ T3 (mkF m 105 #[.val (.int x0), .val (.int x1), .val (.int x2), .val (.int x3), .val (.int n1), .val (.int n2), .val (.int c0), .val (.int c1), .val (.int c2), .val (.int d0), .val (.int d1), .val (.int d2), .val (.ref a1), .unset, .unset, .unset, .unset, .unset] [(.ref a3)])
  refine Go.st (T' := T3) (g' := (mkF m 107 #[.val (.int x0), .val (.int x1), .val (.int x2), .val (.int x3), .val (.int n1), .val (.int n2), .val (.int c0), .val (.int c1), .val (.int c2), .val (.int d0), .val (.int d1), .val (.int d2), .val (.ref a1), .val (.ref a3), .unset, .unset, .unset, .unset] [])) (fun _ zk => XS.astore X3.here hx rfl (hb hby at_105) rfl rfl (l' := #[.val (.int x0), .val (.int x1), .val (.int x2), .val (.int x3), .val (.int n1), .val (.int n2), .val (.int c0), .val (.int c1), .val (.int c2), .val (.int d0), .val (.int d1), .val (.int d2), .val (.ref a1), .val (.ref a3), .unset, .unset, .unset, .unset]) rfl zk) ?_
  obtain ⟨j7, hj7, dj7⟩ : ∃ j7 : Int32, ((j7 = 1 ∧ same n1 n2 c0 c1 c2 d0 d1 d2) ∨ (j7 = 0 ∧ ¬ same n1 n2 c0 c1 c2 d0 d1 d2)) ∧ ∀ tt, Steps p.tables e below (T3.setTop (mkF m 158 #[.val (.int x0), .val (.int x1), .val (.int x2), .val (.int x3), .val (.int n1), .val (.int n2), .val (.int c0), .val (.int c1), .val (.int c2), .val (.int d0), .val (.int d1), .val (.int d2), .val (.ref a1), .val (.ref a3), .unset, .unset, .unset, .unset] [(.int j7)])) tt → Steps p.tables e below (T3.setTop (mkF m 107 #[.val (.int x0), .val (.int x1), .val (.int x2), .val (.int x3), .val (.int n1), .val (.int n2), .val (.int c0), .val (.int c1), .val (.int c2), .val (.int d0), .val (.int d1), .val (.int d2), .val (.ref a1), .val (.ref a3), .unset, .unset, .unset, .unset] [])) tt := by
    by_cases hc111 : n1 = n2
    · by_cases hc117 : n1 < (1 : Int32)
      · by_cases hc130 : n1 < (2 : Int32)
        · by_cases hc143 : n1 < (3 : Int32)
          · refine ⟨(1 : Int32), (by simp [same, ← hc111, hc117, hc130, hc143]), fun tt zk => ?_⟩
            suffices zk : Steps p.tables e below (T3.setTop (mkF m 109 #[.val (.int x0), .val (.int x1), .val (.int x2), .val (.int x3), .val (.int n1), .val (.int n2), .val (.int c0), .val (.int c1), .val (.int c2), .val (.int d0), .val (.int d1), .val (.int d2), .val (.ref a1), .val (.ref a3), .unset, .unset, .unset, .unset] [(.int n1)])) tt from XS.iload X3.here hx rfl (hb hby at_107) rfl zk
            suffices zk : Steps p.tables e below (T3.setTop (mkF m 111 #[.val (.int x0), .val (.int x1), .val (.int x2), .val (.int x3), .val (.int n1), .val (.int n2), .val (.int c0), .val (.int c1), .val (.int c2), .val (.int d0), .val (.int d1), .val (.int d2), .val (.ref a1), .val (.ref a3), .unset, .unset, .unset, .unset] [(.int n2), (.int n1)])) tt from XS.iload X3.here hx rfl (hb hby at_109) rfl zk
            suffices zk : Steps p.tables e below (T3.setTop (mkF m 114 #[.val (.int x0), .val (.int x1), .val (.int x2), .val (.int x3), .val (.int n1), .val (.int n2), .val (.int c0), .val (.int c1), .val (.int c2), .val (.int d0), .val (.int d1), .val (.int d2), .val (.ref a1), .val (.ref a3), .unset, .unset, .unset, .unset] [])) tt from XS.icmpNo X3.here hx rfl (hb hby at_111) rfl (teq hc111).2 zk
            suffices zk : Steps p.tables e below (T3.setTop (mkF m 116 #[.val (.int x0), .val (.int x1), .val (.int x2), .val (.int x3), .val (.int n1), .val (.int n2), .val (.int c0), .val (.int c1), .val (.int c2), .val (.int d0), .val (.int d1), .val (.int d2), .val (.ref a1), .val (.ref a3), .unset, .unset, .unset, .unset] [(.int n1)])) tt from XS.iload X3.here hx rfl (hb hby at_114) rfl zk
            suffices zk : Steps p.tables e below (T3.setTop (mkF m 117 #[.val (.int x0), .val (.int x1), .val (.int x2), .val (.int x3), .val (.int n1), .val (.int n2), .val (.int c0), .val (.int c1), .val (.int c2), .val (.int d0), .val (.int d1), .val (.int d2), .val (.ref a1), .val (.ref a3), .unset, .unset, .unset, .unset] [(.int (1 : Int32)), (.int n1)])) tt from XS.iconst X3.here hx rfl (hb hby at_116) zk
            suffices zk : Steps p.tables e below (T3.setTop (mkF m 127 #[.val (.int x0), .val (.int x1), .val (.int x2), .val (.int x3), .val (.int n1), .val (.int n2), .val (.int c0), .val (.int c1), .val (.int c2), .val (.int d0), .val (.int d1), .val (.int d2), .val (.ref a1), .val (.ref a3), .unset, .unset, .unset, .unset] [])) tt from XS.icmpYes X3.here hx rfl (pc0 := 117) (pc' := 127) rfl (hb hby at_117) rfl (tlt hc117).1 (by decide) (by decide) zk
            suffices zk : Steps p.tables e below (T3.setTop (mkF m 129 #[.val (.int x0), .val (.int x1), .val (.int x2), .val (.int x3), .val (.int n1), .val (.int n2), .val (.int c0), .val (.int c1), .val (.int c2), .val (.int d0), .val (.int d1), .val (.int d2), .val (.ref a1), .val (.ref a3), .unset, .unset, .unset, .unset] [(.int n1)])) tt from XS.iload X3.here hx rfl (hb hby at_127) rfl zk
            suffices zk : Steps p.tables e below (T3.setTop (mkF m 130 #[.val (.int x0), .val (.int x1), .val (.int x2), .val (.int x3), .val (.int n1), .val (.int n2), .val (.int c0), .val (.int c1), .val (.int c2), .val (.int d0), .val (.int d1), .val (.int d2), .val (.ref a1), .val (.ref a3), .unset, .unset, .unset, .unset] [(.int (2 : Int32)), (.int n1)])) tt from XS.iconst X3.here hx rfl (hb hby at_129) zk
            suffices zk : Steps p.tables e below (T3.setTop (mkF m 140 #[.val (.int x0), .val (.int x1), .val (.int x2), .val (.int x3), .val (.int n1), .val (.int n2), .val (.int c0), .val (.int c1), .val (.int c2), .val (.int d0), .val (.int d1), .val (.int d2), .val (.ref a1), .val (.ref a3), .unset, .unset, .unset, .unset] [])) tt from XS.icmpYes X3.here hx rfl (pc0 := 130) (pc' := 140) rfl (hb hby at_130) rfl (tlt hc130).1 (by decide) (by decide) zk
            suffices zk : Steps p.tables e below (T3.setTop (mkF m 142 #[.val (.int x0), .val (.int x1), .val (.int x2), .val (.int x3), .val (.int n1), .val (.int n2), .val (.int c0), .val (.int c1), .val (.int c2), .val (.int d0), .val (.int d1), .val (.int d2), .val (.ref a1), .val (.ref a3), .unset, .unset, .unset, .unset] [(.int n1)])) tt from XS.iload X3.here hx rfl (hb hby at_140) rfl zk
            suffices zk : Steps p.tables e below (T3.setTop (mkF m 143 #[.val (.int x0), .val (.int x1), .val (.int x2), .val (.int x3), .val (.int n1), .val (.int n2), .val (.int c0), .val (.int c1), .val (.int c2), .val (.int d0), .val (.int d1), .val (.int d2), .val (.ref a1), .val (.ref a3), .unset, .unset, .unset, .unset] [(.int (3 : Int32)), (.int n1)])) tt from XS.iconst X3.here hx rfl (hb hby at_142) zk
            suffices zk : Steps p.tables e below (T3.setTop (mkF m 153 #[.val (.int x0), .val (.int x1), .val (.int x2), .val (.int x3), .val (.int n1), .val (.int n2), .val (.int c0), .val (.int c1), .val (.int c2), .val (.int d0), .val (.int d1), .val (.int d2), .val (.ref a1), .val (.ref a3), .unset, .unset, .unset, .unset] [])) tt from XS.icmpYes X3.here hx rfl (pc0 := 143) (pc' := 153) rfl (hb hby at_143) rfl (tlt hc143).1 (by decide) (by decide) zk
            suffices zk : Steps p.tables e below (T3.setTop (mkF m 154 #[.val (.int x0), .val (.int x1), .val (.int x2), .val (.int x3), .val (.int n1), .val (.int n2), .val (.int c0), .val (.int c1), .val (.int c2), .val (.int d0), .val (.int d1), .val (.int d2), .val (.ref a1), .val (.ref a3), .unset, .unset, .unset, .unset] [(.int (1 : Int32))])) tt from XS.iconst X3.here hx rfl (hb hby at_153) zk
            suffices zk : Steps p.tables e below (T3.setTop (mkF m 158 #[.val (.int x0), .val (.int x1), .val (.int x2), .val (.int x3), .val (.int n1), .val (.int n2), .val (.int c0), .val (.int c1), .val (.int c2), .val (.int d0), .val (.int d1), .val (.int d2), .val (.ref a1), .val (.ref a3), .unset, .unset, .unset, .unset] [(.int (1 : Int32))])) tt from XS.goto X3.here hx rfl (pc0 := 154) (pc' := 158) rfl (hb hby at_154) (by decide) (by decide) zk
            exact zk
          · by_cases hc150 : c2 = d2
            · refine ⟨(1 : Int32), (by simp [same, ← hc111, hc117, hc130, hc143, ← hc150]), fun tt zk => ?_⟩
              suffices zk : Steps p.tables e below (T3.setTop (mkF m 109 #[.val (.int x0), .val (.int x1), .val (.int x2), .val (.int x3), .val (.int n1), .val (.int n2), .val (.int c0), .val (.int c1), .val (.int c2), .val (.int d0), .val (.int d1), .val (.int d2), .val (.ref a1), .val (.ref a3), .unset, .unset, .unset, .unset] [(.int n1)])) tt from XS.iload X3.here hx rfl (hb hby at_107) rfl zk
              suffices zk : Steps p.tables e below (T3.setTop (mkF m 111 #[.val (.int x0), .val (.int x1), .val (.int x2), .val (.int x3), .val (.int n1), .val (.int n2), .val (.int c0), .val (.int c1), .val (.int c2), .val (.int d0), .val (.int d1), .val (.int d2), .val (.ref a1), .val (.ref a3), .unset, .unset, .unset, .unset] [(.int n2), (.int n1)])) tt from XS.iload X3.here hx rfl (hb hby at_109) rfl zk
              suffices zk : Steps p.tables e below (T3.setTop (mkF m 114 #[.val (.int x0), .val (.int x1), .val (.int x2), .val (.int x3), .val (.int n1), .val (.int n2), .val (.int c0), .val (.int c1), .val (.int c2), .val (.int d0), .val (.int d1), .val (.int d2), .val (.ref a1), .val (.ref a3), .unset, .unset, .unset, .unset] [])) tt from XS.icmpNo X3.here hx rfl (hb hby at_111) rfl (teq hc111).2 zk
              suffices zk : Steps p.tables e below (T3.setTop (mkF m 116 #[.val (.int x0), .val (.int x1), .val (.int x2), .val (.int x3), .val (.int n1), .val (.int n2), .val (.int c0), .val (.int c1), .val (.int c2), .val (.int d0), .val (.int d1), .val (.int d2), .val (.ref a1), .val (.ref a3), .unset, .unset, .unset, .unset] [(.int n1)])) tt from XS.iload X3.here hx rfl (hb hby at_114) rfl zk
              suffices zk : Steps p.tables e below (T3.setTop (mkF m 117 #[.val (.int x0), .val (.int x1), .val (.int x2), .val (.int x3), .val (.int n1), .val (.int n2), .val (.int c0), .val (.int c1), .val (.int c2), .val (.int d0), .val (.int d1), .val (.int d2), .val (.ref a1), .val (.ref a3), .unset, .unset, .unset, .unset] [(.int (1 : Int32)), (.int n1)])) tt from XS.iconst X3.here hx rfl (hb hby at_116) zk
              suffices zk : Steps p.tables e below (T3.setTop (mkF m 127 #[.val (.int x0), .val (.int x1), .val (.int x2), .val (.int x3), .val (.int n1), .val (.int n2), .val (.int c0), .val (.int c1), .val (.int c2), .val (.int d0), .val (.int d1), .val (.int d2), .val (.ref a1), .val (.ref a3), .unset, .unset, .unset, .unset] [])) tt from XS.icmpYes X3.here hx rfl (pc0 := 117) (pc' := 127) rfl (hb hby at_117) rfl (tlt hc117).1 (by decide) (by decide) zk
              suffices zk : Steps p.tables e below (T3.setTop (mkF m 129 #[.val (.int x0), .val (.int x1), .val (.int x2), .val (.int x3), .val (.int n1), .val (.int n2), .val (.int c0), .val (.int c1), .val (.int c2), .val (.int d0), .val (.int d1), .val (.int d2), .val (.ref a1), .val (.ref a3), .unset, .unset, .unset, .unset] [(.int n1)])) tt from XS.iload X3.here hx rfl (hb hby at_127) rfl zk
              suffices zk : Steps p.tables e below (T3.setTop (mkF m 130 #[.val (.int x0), .val (.int x1), .val (.int x2), .val (.int x3), .val (.int n1), .val (.int n2), .val (.int c0), .val (.int c1), .val (.int c2), .val (.int d0), .val (.int d1), .val (.int d2), .val (.ref a1), .val (.ref a3), .unset, .unset, .unset, .unset] [(.int (2 : Int32)), (.int n1)])) tt from XS.iconst X3.here hx rfl (hb hby at_129) zk
              suffices zk : Steps p.tables e below (T3.setTop (mkF m 140 #[.val (.int x0), .val (.int x1), .val (.int x2), .val (.int x3), .val (.int n1), .val (.int n2), .val (.int c0), .val (.int c1), .val (.int c2), .val (.int d0), .val (.int d1), .val (.int d2), .val (.ref a1), .val (.ref a3), .unset, .unset, .unset, .unset] [])) tt from XS.icmpYes X3.here hx rfl (pc0 := 130) (pc' := 140) rfl (hb hby at_130) rfl (tlt hc130).1 (by decide) (by decide) zk
              suffices zk : Steps p.tables e below (T3.setTop (mkF m 142 #[.val (.int x0), .val (.int x1), .val (.int x2), .val (.int x3), .val (.int n1), .val (.int n2), .val (.int c0), .val (.int c1), .val (.int c2), .val (.int d0), .val (.int d1), .val (.int d2), .val (.ref a1), .val (.ref a3), .unset, .unset, .unset, .unset] [(.int n1)])) tt from XS.iload X3.here hx rfl (hb hby at_140) rfl zk
              suffices zk : Steps p.tables e below (T3.setTop (mkF m 143 #[.val (.int x0), .val (.int x1), .val (.int x2), .val (.int x3), .val (.int n1), .val (.int n2), .val (.int c0), .val (.int c1), .val (.int c2), .val (.int d0), .val (.int d1), .val (.int d2), .val (.ref a1), .val (.ref a3), .unset, .unset, .unset, .unset] [(.int (3 : Int32)), (.int n1)])) tt from XS.iconst X3.here hx rfl (hb hby at_142) zk
              suffices zk : Steps p.tables e below (T3.setTop (mkF m 146 #[.val (.int x0), .val (.int x1), .val (.int x2), .val (.int x3), .val (.int n1), .val (.int n2), .val (.int c0), .val (.int c1), .val (.int c2), .val (.int d0), .val (.int d1), .val (.int d2), .val (.ref a1), .val (.ref a3), .unset, .unset, .unset, .unset] [])) tt from XS.icmpNo X3.here hx rfl (hb hby at_143) rfl (flt hc143).1 zk
              suffices zk : Steps p.tables e below (T3.setTop (mkF m 148 #[.val (.int x0), .val (.int x1), .val (.int x2), .val (.int x3), .val (.int n1), .val (.int n2), .val (.int c0), .val (.int c1), .val (.int c2), .val (.int d0), .val (.int d1), .val (.int d2), .val (.ref a1), .val (.ref a3), .unset, .unset, .unset, .unset] [(.int c2)])) tt from XS.iload X3.here hx rfl (hb hby at_146) rfl zk
              suffices zk : Steps p.tables e below (T3.setTop (mkF m 150 #[.val (.int x0), .val (.int x1), .val (.int x2), .val (.int x3), .val (.int n1), .val (.int n2), .val (.int c0), .val (.int c1), .val (.int c2), .val (.int d0), .val (.int d1), .val (.int d2), .val (.ref a1), .val (.ref a3), .unset, .unset, .unset, .unset] [(.int d2), (.int c2)])) tt from XS.iload X3.here hx rfl (hb hby at_148) rfl zk
              suffices zk : Steps p.tables e below (T3.setTop (mkF m 153 #[.val (.int x0), .val (.int x1), .val (.int x2), .val (.int x3), .val (.int n1), .val (.int n2), .val (.int c0), .val (.int c1), .val (.int c2), .val (.int d0), .val (.int d1), .val (.int d2), .val (.ref a1), .val (.ref a3), .unset, .unset, .unset, .unset] [])) tt from XS.icmpNo X3.here hx rfl (hb hby at_150) rfl (teq hc150).2 zk
              suffices zk : Steps p.tables e below (T3.setTop (mkF m 154 #[.val (.int x0), .val (.int x1), .val (.int x2), .val (.int x3), .val (.int n1), .val (.int n2), .val (.int c0), .val (.int c1), .val (.int c2), .val (.int d0), .val (.int d1), .val (.int d2), .val (.ref a1), .val (.ref a3), .unset, .unset, .unset, .unset] [(.int (1 : Int32))])) tt from XS.iconst X3.here hx rfl (hb hby at_153) zk
              suffices zk : Steps p.tables e below (T3.setTop (mkF m 158 #[.val (.int x0), .val (.int x1), .val (.int x2), .val (.int x3), .val (.int n1), .val (.int n2), .val (.int c0), .val (.int c1), .val (.int c2), .val (.int d0), .val (.int d1), .val (.int d2), .val (.ref a1), .val (.ref a3), .unset, .unset, .unset, .unset] [(.int (1 : Int32))])) tt from XS.goto X3.here hx rfl (pc0 := 154) (pc' := 158) rfl (hb hby at_154) (by decide) (by decide) zk
              exact zk
            · refine ⟨(0 : Int32), (by simp [same, ← hc111, hc117, hc130, hc143, hc150]), fun tt zk => ?_⟩
              suffices zk : Steps p.tables e below (T3.setTop (mkF m 109 #[.val (.int x0), .val (.int x1), .val (.int x2), .val (.int x3), .val (.int n1), .val (.int n2), .val (.int c0), .val (.int c1), .val (.int c2), .val (.int d0), .val (.int d1), .val (.int d2), .val (.ref a1), .val (.ref a3), .unset, .unset, .unset, .unset] [(.int n1)])) tt from XS.iload X3.here hx rfl (hb hby at_107) rfl zk
              suffices zk : Steps p.tables e below (T3.setTop (mkF m 111 #[.val (.int x0), .val (.int x1), .val (.int x2), .val (.int x3), .val (.int n1), .val (.int n2), .val (.int c0), .val (.int c1), .val (.int c2), .val (.int d0), .val (.int d1), .val (.int d2), .val (.ref a1), .val (.ref a3), .unset, .unset, .unset, .unset] [(.int n2), (.int n1)])) tt from XS.iload X3.here hx rfl (hb hby at_109) rfl zk
              suffices zk : Steps p.tables e below (T3.setTop (mkF m 114 #[.val (.int x0), .val (.int x1), .val (.int x2), .val (.int x3), .val (.int n1), .val (.int n2), .val (.int c0), .val (.int c1), .val (.int c2), .val (.int d0), .val (.int d1), .val (.int d2), .val (.ref a1), .val (.ref a3), .unset, .unset, .unset, .unset] [])) tt from XS.icmpNo X3.here hx rfl (hb hby at_111) rfl (teq hc111).2 zk
              suffices zk : Steps p.tables e below (T3.setTop (mkF m 116 #[.val (.int x0), .val (.int x1), .val (.int x2), .val (.int x3), .val (.int n1), .val (.int n2), .val (.int c0), .val (.int c1), .val (.int c2), .val (.int d0), .val (.int d1), .val (.int d2), .val (.ref a1), .val (.ref a3), .unset, .unset, .unset, .unset] [(.int n1)])) tt from XS.iload X3.here hx rfl (hb hby at_114) rfl zk
              suffices zk : Steps p.tables e below (T3.setTop (mkF m 117 #[.val (.int x0), .val (.int x1), .val (.int x2), .val (.int x3), .val (.int n1), .val (.int n2), .val (.int c0), .val (.int c1), .val (.int c2), .val (.int d0), .val (.int d1), .val (.int d2), .val (.ref a1), .val (.ref a3), .unset, .unset, .unset, .unset] [(.int (1 : Int32)), (.int n1)])) tt from XS.iconst X3.here hx rfl (hb hby at_116) zk
              suffices zk : Steps p.tables e below (T3.setTop (mkF m 127 #[.val (.int x0), .val (.int x1), .val (.int x2), .val (.int x3), .val (.int n1), .val (.int n2), .val (.int c0), .val (.int c1), .val (.int c2), .val (.int d0), .val (.int d1), .val (.int d2), .val (.ref a1), .val (.ref a3), .unset, .unset, .unset, .unset] [])) tt from XS.icmpYes X3.here hx rfl (pc0 := 117) (pc' := 127) rfl (hb hby at_117) rfl (tlt hc117).1 (by decide) (by decide) zk
              suffices zk : Steps p.tables e below (T3.setTop (mkF m 129 #[.val (.int x0), .val (.int x1), .val (.int x2), .val (.int x3), .val (.int n1), .val (.int n2), .val (.int c0), .val (.int c1), .val (.int c2), .val (.int d0), .val (.int d1), .val (.int d2), .val (.ref a1), .val (.ref a3), .unset, .unset, .unset, .unset] [(.int n1)])) tt from XS.iload X3.here hx rfl (hb hby at_127) rfl zk
              suffices zk : Steps p.tables e below (T3.setTop (mkF m 130 #[.val (.int x0), .val (.int x1), .val (.int x2), .val (.int x3), .val (.int n1), .val (.int n2), .val (.int c0), .val (.int c1), .val (.int c2), .val (.int d0), .val (.int d1), .val (.int d2), .val (.ref a1), .val (.ref a3), .unset, .unset, .unset, .unset] [(.int (2 : Int32)), (.int n1)])) tt from XS.iconst X3.here hx rfl (hb hby at_129) zk
              suffices zk : Steps p.tables e below (T3.setTop (mkF m 140 #[.val (.int x0), .val (.int x1), .val (.int x2), .val (.int x3), .val (.int n1), .val (.int n2), .val (.int c0), .val (.int c1), .val (.int c2), .val (.int d0), .val (.int d1), .val (.int d2), .val (.ref a1), .val (.ref a3), .unset, .unset, .unset, .unset] [])) tt from XS.icmpYes X3.here hx rfl (pc0 := 130) (pc' := 140) rfl (hb hby at_130) rfl (tlt hc130).1 (by decide) (by decide) zk
              suffices zk : Steps p.tables e below (T3.setTop (mkF m 142 #[.val (.int x0), .val (.int x1), .val (.int x2), .val (.int x3), .val (.int n1), .val (.int n2), .val (.int c0), .val (.int c1), .val (.int c2), .val (.int d0), .val (.int d1), .val (.int d2), .val (.ref a1), .val (.ref a3), .unset, .unset, .unset, .unset] [(.int n1)])) tt from XS.iload X3.here hx rfl (hb hby at_140) rfl zk
              suffices zk : Steps p.tables e below (T3.setTop (mkF m 143 #[.val (.int x0), .val (.int x1), .val (.int x2), .val (.int x3), .val (.int n1), .val (.int n2), .val (.int c0), .val (.int c1), .val (.int c2), .val (.int d0), .val (.int d1), .val (.int d2), .val (.ref a1), .val (.ref a3), .unset, .unset, .unset, .unset] [(.int (3 : Int32)), (.int n1)])) tt from XS.iconst X3.here hx rfl (hb hby at_142) zk
              suffices zk : Steps p.tables e below (T3.setTop (mkF m 146 #[.val (.int x0), .val (.int x1), .val (.int x2), .val (.int x3), .val (.int n1), .val (.int n2), .val (.int c0), .val (.int c1), .val (.int c2), .val (.int d0), .val (.int d1), .val (.int d2), .val (.ref a1), .val (.ref a3), .unset, .unset, .unset, .unset] [])) tt from XS.icmpNo X3.here hx rfl (hb hby at_143) rfl (flt hc143).1 zk
              suffices zk : Steps p.tables e below (T3.setTop (mkF m 148 #[.val (.int x0), .val (.int x1), .val (.int x2), .val (.int x3), .val (.int n1), .val (.int n2), .val (.int c0), .val (.int c1), .val (.int c2), .val (.int d0), .val (.int d1), .val (.int d2), .val (.ref a1), .val (.ref a3), .unset, .unset, .unset, .unset] [(.int c2)])) tt from XS.iload X3.here hx rfl (hb hby at_146) rfl zk
              suffices zk : Steps p.tables e below (T3.setTop (mkF m 150 #[.val (.int x0), .val (.int x1), .val (.int x2), .val (.int x3), .val (.int n1), .val (.int n2), .val (.int c0), .val (.int c1), .val (.int c2), .val (.int d0), .val (.int d1), .val (.int d2), .val (.ref a1), .val (.ref a3), .unset, .unset, .unset, .unset] [(.int d2), (.int c2)])) tt from XS.iload X3.here hx rfl (hb hby at_148) rfl zk
              suffices zk : Steps p.tables e below (T3.setTop (mkF m 157 #[.val (.int x0), .val (.int x1), .val (.int x2), .val (.int x3), .val (.int n1), .val (.int n2), .val (.int c0), .val (.int c1), .val (.int c2), .val (.int d0), .val (.int d1), .val (.int d2), .val (.ref a1), .val (.ref a3), .unset, .unset, .unset, .unset] [])) tt from XS.icmpYes X3.here hx rfl (pc0 := 150) (pc' := 157) rfl (hb hby at_150) rfl (feq hc150).2 (by decide) (by decide) zk
              suffices zk : Steps p.tables e below (T3.setTop (mkF m 158 #[.val (.int x0), .val (.int x1), .val (.int x2), .val (.int x3), .val (.int n1), .val (.int n2), .val (.int c0), .val (.int c1), .val (.int c2), .val (.int d0), .val (.int d1), .val (.int d2), .val (.ref a1), .val (.ref a3), .unset, .unset, .unset, .unset] [(.int (0 : Int32))])) tt from XS.iconst X3.here hx rfl (hb hby at_157) zk
              exact zk
        · by_cases hc137 : c1 = d1
          · by_cases hc143 : n1 < (3 : Int32)
            · refine ⟨(1 : Int32), (by simp [same, ← hc111, hc117, hc130, ← hc137, hc143]), fun tt zk => ?_⟩
              suffices zk : Steps p.tables e below (T3.setTop (mkF m 109 #[.val (.int x0), .val (.int x1), .val (.int x2), .val (.int x3), .val (.int n1), .val (.int n2), .val (.int c0), .val (.int c1), .val (.int c2), .val (.int d0), .val (.int d1), .val (.int d2), .val (.ref a1), .val (.ref a3), .unset, .unset, .unset, .unset] [(.int n1)])) tt from XS.iload X3.here hx rfl (hb hby at_107) rfl zk
              suffices zk : Steps p.tables e below (T3.setTop (mkF m 111 #[.val (.int x0), .val (.int x1), .val (.int x2), .val (.int x3), .val (.int n1), .val (.int n2), .val (.int c0), .val (.int c1), .val (.int c2), .val (.int d0), .val (.int d1), .val (.int d2), .val (.ref a1), .val (.ref a3), .unset, .unset, .unset, .unset] [(.int n2), (.int n1)])) tt from XS.iload X3.here hx rfl (hb hby at_109) rfl zk
              suffices zk : Steps p.tables e below (T3.setTop (mkF m 114 #[.val (.int x0), .val (.int x1), .val (.int x2), .val (.int x3), .val (.int n1), .val (.int n2), .val (.int c0), .val (.int c1), .val (.int c2), .val (.int d0), .val (.int d1), .val (.int d2), .val (.ref a1), .val (.ref a3), .unset, .unset, .unset, .unset] [])) tt from XS.icmpNo X3.here hx rfl (hb hby at_111) rfl (teq hc111).2 zk
              suffices zk : Steps p.tables e below (T3.setTop (mkF m 116 #[.val (.int x0), .val (.int x1), .val (.int x2), .val (.int x3), .val (.int n1), .val (.int n2), .val (.int c0), .val (.int c1), .val (.int c2), .val (.int d0), .val (.int d1), .val (.int d2), .val (.ref a1), .val (.ref a3), .unset, .unset, .unset, .unset] [(.int n1)])) tt from XS.iload X3.here hx rfl (hb hby at_114) rfl zk
              suffices zk : Steps p.tables e below (T3.setTop (mkF m 117 #[.val (.int x0), .val (.int x1), .val (.int x2), .val (.int x3), .val (.int n1), .val (.int n2), .val (.int c0), .val (.int c1), .val (.int c2), .val (.int d0), .val (.int d1), .val (.int d2), .val (.ref a1), .val (.ref a3), .unset, .unset, .unset, .unset] [(.int (1 : Int32)), (.int n1)])) tt from XS.iconst X3.here hx rfl (hb hby at_116) zk
              suffices zk : Steps p.tables e below (T3.setTop (mkF m 127 #[.val (.int x0), .val (.int x1), .val (.int x2), .val (.int x3), .val (.int n1), .val (.int n2), .val (.int c0), .val (.int c1), .val (.int c2), .val (.int d0), .val (.int d1), .val (.int d2), .val (.ref a1), .val (.ref a3), .unset, .unset, .unset, .unset] [])) tt from XS.icmpYes X3.here hx rfl (pc0 := 117) (pc' := 127) rfl (hb hby at_117) rfl (tlt hc117).1 (by decide) (by decide) zk
              suffices zk : Steps p.tables e below (T3.setTop (mkF m 129 #[.val (.int x0), .val (.int x1), .val (.int x2), .val (.int x3), .val (.int n1), .val (.int n2), .val (.int c0), .val (.int c1), .val (.int c2), .val (.int d0), .val (.int d1), .val (.int d2), .val (.ref a1), .val (.ref a3), .unset, .unset, .unset, .unset] [(.int n1)])) tt from XS.iload X3.here hx rfl (hb hby at_127) rfl zk
              suffices zk : Steps p.tables e below (T3.setTop (mkF m 130 #[.val (.int x0), .val (.int x1), .val (.int x2), .val (.int x3), .val (.int n1), .val (.int n2), .val (.int c0), .val (.int c1), .val (.int c2), .val (.int d0), .val (.int d1), .val (.int d2), .val (.ref a1), .val (.ref a3), .unset, .unset, .unset, .unset] [(.int (2 : Int32)), (.int n1)])) tt from XS.iconst X3.here hx rfl (hb hby at_129) zk
              suffices zk : Steps p.tables e below (T3.setTop (mkF m 133 #[.val (.int x0), .val (.int x1), .val (.int x2), .val (.int x3), .val (.int n1), .val (.int n2), .val (.int c0), .val (.int c1), .val (.int c2), .val (.int d0), .val (.int d1), .val (.int d2), .val (.ref a1), .val (.ref a3), .unset, .unset, .unset, .unset] [])) tt from XS.icmpNo X3.here hx rfl (hb hby at_130) rfl (flt hc130).1 zk
              suffices zk : Steps p.tables e below (T3.setTop (mkF m 135 #[.val (.int x0), .val (.int x1), .val (.int x2), .val (.int x3), .val (.int n1), .val (.int n2), .val (.int c0), .val (.int c1), .val (.int c2), .val (.int d0), .val (.int d1), .val (.int d2), .val (.ref a1), .val (.ref a3), .unset, .unset, .unset, .unset] [(.int c1)])) tt from XS.iload X3.here hx rfl (hb hby at_133) rfl zk
              suffices zk : Steps p.tables e below (T3.setTop (mkF m 137 #[.val (.int x0), .val (.int x1), .val (.int x2), .val (.int x3), .val (.int n1), .val (.int n2), .val (.int c0), .val (.int c1), .val (.int c2), .val (.int d0), .val (.int d1), .val (.int d2), .val (.ref a1), .val (.ref a3), .unset, .unset, .unset, .unset] [(.int d1), (.int c1)])) tt from XS.iload X3.here hx rfl (hb hby at_135) rfl zk
              suffices zk : Steps p.tables e below (T3.setTop (mkF m 140 #[.val (.int x0), .val (.int x1), .val (.int x2), .val (.int x3), .val (.int n1), .val (.int n2), .val (.int c0), .val (.int c1), .val (.int c2), .val (.int d0), .val (.int d1), .val (.int d2), .val (.ref a1), .val (.ref a3), .unset, .unset, .unset, .unset] [])) tt from XS.icmpNo X3.here hx rfl (hb hby at_137) rfl (teq hc137).2 zk
              suffices zk : Steps p.tables e below (T3.setTop (mkF m 142 #[.val (.int x0), .val (.int x1), .val (.int x2), .val (.int x3), .val (.int n1), .val (.int n2), .val (.int c0), .val (.int c1), .val (.int c2), .val (.int d0), .val (.int d1), .val (.int d2), .val (.ref a1), .val (.ref a3), .unset, .unset, .unset, .unset] [(.int n1)])) tt from XS.iload X3.here hx rfl (hb hby at_140) rfl zk
              suffices zk : Steps p.tables e below (T3.setTop (mkF m 143 #[.val (.int x0), .val (.int x1), .val (.int x2), .val (.int x3), .val (.int n1), .val (.int n2), .val (.int c0), .val (.int c1), .val (.int c2), .val (.int d0), .val (.int d1), .val (.int d2), .val (.ref a1), .val (.ref a3), .unset, .unset, .unset, .unset] [(.int (3 : Int32)), (.int n1)])) tt from XS.iconst X3.here hx rfl (hb hby at_142) zk
              suffices zk : Steps p.tables e below (T3.setTop (mkF m 153 #[.val (.int x0), .val (.int x1), .val (.int x2), .val (.int x3), .val (.int n1), .val (.int n2), .val (.int c0), .val (.int c1), .val (.int c2), .val (.int d0), .val (.int d1), .val (.int d2), .val (.ref a1), .val (.ref a3), .unset, .unset, .unset, .unset] [])) tt from XS.icmpYes X3.here hx rfl (pc0 := 143) (pc' := 153) rfl (hb hby at_143) rfl (tlt hc143).1 (by decide) (by decide) zk
              suffices zk : Steps p.tables e below (T3.setTop (mkF m 154 #[.val (.int x0), .val (.int x1), .val (.int x2), .val (.int x3), .val (.int n1), .val (.int n2), .val (.int c0), .val (.int c1), .val (.int c2), .val (.int d0), .val (.int d1), .val (.int d2), .val (.ref a1), .val (.ref a3), .unset, .unset, .unset, .unset] [(.int (1 : Int32))])) tt from XS.iconst X3.here hx rfl (hb hby at_153) zk
              suffices zk : Steps p.tables e below (T3.setTop (mkF m 158 #[.val (.int x0), .val (.int x1), .val (.int x2), .val (.int x3), .val (.int n1), .val (.int n2), .val (.int c0), .val (.int c1), .val (.int c2), .val (.int d0), .val (.int d1), .val (.int d2), .val (.ref a1), .val (.ref a3), .unset, .unset, .unset, .unset] [(.int (1 : Int32))])) tt from XS.goto X3.here hx rfl (pc0 := 154) (pc' := 158) rfl (hb hby at_154) (by decide) (by decide) zk
              exact zk
            · by_cases hc150 : c2 = d2
              · refine ⟨(1 : Int32), (by simp [same, ← hc111, hc117, hc130, ← hc137, hc143, ← hc150]), fun tt zk => ?_⟩
                suffices zk : Steps p.tables e below (T3.setTop (mkF m 109 #[.val (.int x0), .val (.int x1), .val (.int x2), .val (.int x3), .val (.int n1), .val (.int n2), .val (.int c0), .val (.int c1), .val (.int c2), .val (.int d0), .val (.int d1), .val (.int d2), .val (.ref a1), .val (.ref a3), .unset, .unset, .unset, .unset] [(.int n1)])) tt from XS.iload X3.here hx rfl (hb hby at_107) rfl zk
                suffices zk : Steps p.tables e below (T3.setTop (mkF m 111 #[.val (.int x0), .val (.int x1), .val (.int x2), .val (.int x3), .val (.int n1), .val (.int n2), .val (.int c0), .val (.int c1), .val (.int c2), .val (.int d0), .val (.int d1), .val (.int d2), .val (.ref a1), .val (.ref a3), .unset, .unset, .unset, .unset] [(.int n2), (.int n1)])) tt from XS.iload X3.here hx rfl (hb hby at_109) rfl zk
                suffices zk : Steps p.tables e below (T3.setTop (mkF m 114 #[.val (.int x0), .val (.int x1), .val (.int x2), .val (.int x3), .val (.int n1), .val (.int n2), .val (.int c0), .val (.int c1), .val (.int c2), .val (.int d0), .val (.int d1), .val (.int d2), .val (.ref a1), .val (.ref a3), .unset, .unset, .unset, .unset] [])) tt from XS.icmpNo X3.here hx rfl (hb hby at_111) rfl (teq hc111).2 zk
                suffices zk : Steps p.tables e below (T3.setTop (mkF m 116 #[.val (.int x0), .val (.int x1), .val (.int x2), .val (.int x3), .val (.int n1), .val (.int n2), .val (.int c0), .val (.int c1), .val (.int c2), .val (.int d0), .val (.int d1), .val (.int d2), .val (.ref a1), .val (.ref a3), .unset, .unset, .unset, .unset] [(.int n1)])) tt from XS.iload X3.here hx rfl (hb hby at_114) rfl zk
                suffices zk : Steps p.tables e below (T3.setTop (mkF m 117 #[.val (.int x0), .val (.int x1), .val (.int x2), .val (.int x3), .val (.int n1), .val (.int n2), .val (.int c0), .val (.int c1), .val (.int c2), .val (.int d0), .val (.int d1), .val (.int d2), .val (.ref a1), .val (.ref a3), .unset, .unset, .unset, .unset] [(.int (1 : Int32)), (.int n1)])) tt from XS.iconst X3.here hx rfl (hb hby at_116) zk
                suffices zk : Steps p.tables e below (T3.setTop (mkF m 127 #[.val (.int x0), .val (.int x1), .val (.int x2), .val (.int x3), .val (.int n1), .val (.int n2), .val (.int c0), .val (.int c1), .val (.int c2), .val (.int d0), .val (.int d1), .val (.int d2), .val (.ref a1), .val (.ref a3), .unset, .unset, .unset, .unset] [])) tt from XS.icmpYes X3.here hx rfl (pc0 := 117) (pc' := 127) rfl (hb hby at_117) rfl (tlt hc117).1 (by decide) (by decide) zk
                suffices zk : Steps p.tables e below (T3.setTop (mkF m 129 #[.val (.int x0), .val (.int x1), .val (.int x2), .val (.int x3), .val (.int n1), .val (.int n2), .val (.int c0), .val (.int c1), .val (.int c2), .val (.int d0), .val (.int d1), .val (.int d2), .val (.ref a1), .val (.ref a3), .unset, .unset, .unset, .unset] [(.int n1)])) tt from XS.iload X3.here hx rfl (hb hby at_127) rfl zk
                suffices zk : Steps p.tables e below (T3.setTop (mkF m 130 #[.val (.int x0), .val (.int x1), .val (.int x2), .val (.int x3), .val (.int n1), .val (.int n2), .val (.int c0), .val (.int c1), .val (.int c2), .val (.int d0), .val (.int d1), .val (.int d2), .val (.ref a1), .val (.ref a3), .unset, .unset, .unset, .unset] [(.int (2 : Int32)), (.int n1)])) tt from XS.iconst X3.here hx rfl (hb hby at_129) zk
                suffices zk : Steps p.tables e below (T3.setTop (mkF m 133 #[.val (.int x0), .val (.int x1), .val (.int x2), .val (.int x3), .val (.int n1), .val (.int n2), .val (.int c0), .val (.int c1), .val (.int c2), .val (.int d0), .val (.int d1), .val (.int d2), .val (.ref a1), .val (.ref a3), .unset, .unset, .unset, .unset] [])) tt from XS.icmpNo X3.here hx rfl (hb hby at_130) rfl (flt hc130).1 zk
                suffices zk : Steps p.tables e below (T3.setTop (mkF m 135 #[.val (.int x0), .val (.int x1), .val (.int x2), .val (.int x3), .val (.int n1), .val (.int n2), .val (.int c0), .val (.int c1), .val (.int c2), .val (.int d0), .val (.int d1), .val (.int d2), .val (.ref a1), .val (.ref a3), .unset, .unset, .unset, .unset] [(.int c1)])) tt from XS.iload X3.here hx rfl (hb hby at_133) rfl zk
                suffices zk : Steps p.tables e below (T3.setTop (mkF m 137 #[.val (.int x0), .val (.int x1), .val (.int x2), .val (.int x3), .val (.int n1), .val (.int n2), .val (.int c0), .val (.int c1), .val (.int c2), .val (.int d0), .val (.int d1), .val (.int d2), .val (.ref a1), .val (.ref a3), .unset, .unset, .unset, .unset] [(.int d1), (.int c1)])) tt from XS.iload X3.here hx rfl (hb hby at_135) rfl zk
                suffices zk : Steps p.tables e below (T3.setTop (mkF m 140 #[.val (.int x0), .val (.int x1), .val (.int x2), .val (.int x3), .val (.int n1), .val (.int n2), .val (.int c0), .val (.int c1), .val (.int c2), .val (.int d0), .val (.int d1), .val (.int d2), .val (.ref a1), .val (.ref a3), .unset, .unset, .unset, .unset] [])) tt from XS.icmpNo X3.here hx rfl (hb hby at_137) rfl (teq hc137).2 zk
                suffices zk : Steps p.tables e below (T3.setTop (mkF m 142 #[.val (.int x0), .val (.int x1), .val (.int x2), .val (.int x3), .val (.int n1), .val (.int n2), .val (.int c0), .val (.int c1), .val (.int c2), .val (.int d0), .val (.int d1), .val (.int d2), .val (.ref a1), .val (.ref a3), .unset, .unset, .unset, .unset] [(.int n1)])) tt from XS.iload X3.here hx rfl (hb hby at_140) rfl zk
                suffices zk : Steps p.tables e below (T3.setTop (mkF m 143 #[.val (.int x0), .val (.int x1), .val (.int x2), .val (.int x3), .val (.int n1), .val (.int n2), .val (.int c0), .val (.int c1), .val (.int c2), .val (.int d0), .val (.int d1), .val (.int d2), .val (.ref a1), .val (.ref a3), .unset, .unset, .unset, .unset] [(.int (3 : Int32)), (.int n1)])) tt from XS.iconst X3.here hx rfl (hb hby at_142) zk
                suffices zk : Steps p.tables e below (T3.setTop (mkF m 146 #[.val (.int x0), .val (.int x1), .val (.int x2), .val (.int x3), .val (.int n1), .val (.int n2), .val (.int c0), .val (.int c1), .val (.int c2), .val (.int d0), .val (.int d1), .val (.int d2), .val (.ref a1), .val (.ref a3), .unset, .unset, .unset, .unset] [])) tt from XS.icmpNo X3.here hx rfl (hb hby at_143) rfl (flt hc143).1 zk
                suffices zk : Steps p.tables e below (T3.setTop (mkF m 148 #[.val (.int x0), .val (.int x1), .val (.int x2), .val (.int x3), .val (.int n1), .val (.int n2), .val (.int c0), .val (.int c1), .val (.int c2), .val (.int d0), .val (.int d1), .val (.int d2), .val (.ref a1), .val (.ref a3), .unset, .unset, .unset, .unset] [(.int c2)])) tt from XS.iload X3.here hx rfl (hb hby at_146) rfl zk
                suffices zk : Steps p.tables e below (T3.setTop (mkF m 150 #[.val (.int x0), .val (.int x1), .val (.int x2), .val (.int x3), .val (.int n1), .val (.int n2), .val (.int c0), .val (.int c1), .val (.int c2), .val (.int d0), .val (.int d1), .val (.int d2), .val (.ref a1), .val (.ref a3), .unset, .unset, .unset, .unset] [(.int d2), (.int c2)])) tt from XS.iload X3.here hx rfl (hb hby at_148) rfl zk
                suffices zk : Steps p.tables e below (T3.setTop (mkF m 153 #[.val (.int x0), .val (.int x1), .val (.int x2), .val (.int x3), .val (.int n1), .val (.int n2), .val (.int c0), .val (.int c1), .val (.int c2), .val (.int d0), .val (.int d1), .val (.int d2), .val (.ref a1), .val (.ref a3), .unset, .unset, .unset, .unset] [])) tt from XS.icmpNo X3.here hx rfl (hb hby at_150) rfl (teq hc150).2 zk
                suffices zk : Steps p.tables e below (T3.setTop (mkF m 154 #[.val (.int x0), .val (.int x1), .val (.int x2), .val (.int x3), .val (.int n1), .val (.int n2), .val (.int c0), .val (.int c1), .val (.int c2), .val (.int d0), .val (.int d1), .val (.int d2), .val (.ref a1), .val (.ref a3), .unset, .unset, .unset, .unset] [(.int (1 : Int32))])) tt from XS.iconst X3.here hx rfl (hb hby at_153) zk
                suffices zk : Steps p.tables e below (T3.setTop (mkF m 158 #[.val (.int x0), .val (.int x1), .val (.int x2), .val (.int x3), .val (.int n1), .val (.int n2), .val (.int c0), .val (.int c1), .val (.int c2), .val (.int d0), .val (.int d1), .val (.int d2), .val (.ref a1), .val (.ref a3), .unset, .unset, .unset, .unset] [(.int (1 : Int32))])) tt from XS.goto X3.here hx rfl (pc0 := 154) (pc' := 158) rfl (hb hby at_154) (by decide) (by decide) zk
                exact zk
              · refine ⟨(0 : Int32), (by simp [same, ← hc111, hc117, hc130, ← hc137, hc143, hc150]), fun tt zk => ?_⟩
                suffices zk : Steps p.tables e below (T3.setTop (mkF m 109 #[.val (.int x0), .val (.int x1), .val (.int x2), .val (.int x3), .val (.int n1), .val (.int n2), .val (.int c0), .val (.int c1), .val (.int c2), .val (.int d0), .val (.int d1), .val (.int d2), .val (.ref a1), .val (.ref a3), .unset, .unset, .unset, .unset] [(.int n1)])) tt from XS.iload X3.here hx rfl (hb hby at_107) rfl zk
                suffices zk : Steps p.tables e below (T3.setTop (mkF m 111 #[.val (.int x0), .val (.int x1), .val (.int x2), .val (.int x3), .val (.int n1), .val (.int n2), .val (.int c0), .val (.int c1), .val (.int c2), .val (.int d0), .val (.int d1), .val (.int d2), .val (.ref a1), .val (.ref a3), .unset, .unset, .unset, .unset] [(.int n2), (.int n1)])) tt from XS.iload X3.here hx rfl (hb hby at_109) rfl zk
                suffices zk : Steps p.tables e below (T3.setTop (mkF m 114 #[.val (.int x0), .val (.int x1), .val (.int x2), .val (.int x3), .val (.int n1), .val (.int n2), .val (.int c0), .val (.int c1), .val (.int c2), .val (.int d0), .val (.int d1), .val (.int d2), .val (.ref a1), .val (.ref a3), .unset, .unset, .unset, .unset] [])) tt from XS.icmpNo X3.here hx rfl (hb hby at_111) rfl (teq hc111).2 zk
                suffices zk : Steps p.tables e below (T3.setTop (mkF m 116 #[.val (.int x0), .val (.int x1), .val (.int x2), .val (.int x3), .val (.int n1), .val (.int n2), .val (.int c0), .val (.int c1), .val (.int c2), .val (.int d0), .val (.int d1), .val (.int d2), .val (.ref a1), .val (.ref a3), .unset, .unset, .unset, .unset] [(.int n1)])) tt from XS.iload X3.here hx rfl (hb hby at_114) rfl zk
                suffices zk : Steps p.tables e below (T3.setTop (mkF m 117 #[.val (.int x0), .val (.int x1), .val (.int x2), .val (.int x3), .val (.int n1), .val (.int n2), .val (.int c0), .val (.int c1), .val (.int c2), .val (.int d0), .val (.int d1), .val (.int d2), .val (.ref a1), .val (.ref a3), .unset, .unset, .unset, .unset] [(.int (1 : Int32)), (.int n1)])) tt from XS.iconst X3.here hx rfl (hb hby at_116) zk
                suffices zk : Steps p.tables e below (T3.setTop (mkF m 127 #[.val (.int x0), .val (.int x1), .val (.int x2), .val (.int x3), .val (.int n1), .val (.int n2), .val (.int c0), .val (.int c1), .val (.int c2), .val (.int d0), .val (.int d1), .val (.int d2), .val (.ref a1), .val (.ref a3), .unset, .unset, .unset, .unset] [])) tt from XS.icmpYes X3.here hx rfl (pc0 := 117) (pc' := 127) rfl (hb hby at_117) rfl (tlt hc117).1 (by decide) (by decide) zk
                suffices zk : Steps p.tables e below (T3.setTop (mkF m 129 #[.val (.int x0), .val (.int x1), .val (.int x2), .val (.int x3), .val (.int n1), .val (.int n2), .val (.int c0), .val (.int c1), .val (.int c2), .val (.int d0), .val (.int d1), .val (.int d2), .val (.ref a1), .val (.ref a3), .unset, .unset, .unset, .unset] [(.int n1)])) tt from XS.iload X3.here hx rfl (hb hby at_127) rfl zk
                suffices zk : Steps p.tables e below (T3.setTop (mkF m 130 #[.val (.int x0), .val (.int x1), .val (.int x2), .val (.int x3), .val (.int n1), .val (.int n2), .val (.int c0), .val (.int c1), .val (.int c2), .val (.int d0), .val (.int d1), .val (.int d2), .val (.ref a1), .val (.ref a3), .unset, .unset, .unset, .unset] [(.int (2 : Int32)), (.int n1)])) tt from XS.iconst X3.here hx rfl (hb hby at_129) zk
                suffices zk : Steps p.tables e below (T3.setTop (mkF m 133 #[.val (.int x0), .val (.int x1), .val (.int x2), .val (.int x3), .val (.int n1), .val (.int n2), .val (.int c0), .val (.int c1), .val (.int c2), .val (.int d0), .val (.int d1), .val (.int d2), .val (.ref a1), .val (.ref a3), .unset, .unset, .unset, .unset] [])) tt from XS.icmpNo X3.here hx rfl (hb hby at_130) rfl (flt hc130).1 zk
                suffices zk : Steps p.tables e below (T3.setTop (mkF m 135 #[.val (.int x0), .val (.int x1), .val (.int x2), .val (.int x3), .val (.int n1), .val (.int n2), .val (.int c0), .val (.int c1), .val (.int c2), .val (.int d0), .val (.int d1), .val (.int d2), .val (.ref a1), .val (.ref a3), .unset, .unset, .unset, .unset] [(.int c1)])) tt from XS.iload X3.here hx rfl (hb hby at_133) rfl zk
                suffices zk : Steps p.tables e below (T3.setTop (mkF m 137 #[.val (.int x0), .val (.int x1), .val (.int x2), .val (.int x3), .val (.int n1), .val (.int n2), .val (.int c0), .val (.int c1), .val (.int c2), .val (.int d0), .val (.int d1), .val (.int d2), .val (.ref a1), .val (.ref a3), .unset, .unset, .unset, .unset] [(.int d1), (.int c1)])) tt from XS.iload X3.here hx rfl (hb hby at_135) rfl zk
                suffices zk : Steps p.tables e below (T3.setTop (mkF m 140 #[.val (.int x0), .val (.int x1), .val (.int x2), .val (.int x3), .val (.int n1), .val (.int n2), .val (.int c0), .val (.int c1), .val (.int c2), .val (.int d0), .val (.int d1), .val (.int d2), .val (.ref a1), .val (.ref a3), .unset, .unset, .unset, .unset] [])) tt from XS.icmpNo X3.here hx rfl (hb hby at_137) rfl (teq hc137).2 zk
                suffices zk : Steps p.tables e below (T3.setTop (mkF m 142 #[.val (.int x0), .val (.int x1), .val (.int x2), .val (.int x3), .val (.int n1), .val (.int n2), .val (.int c0), .val (.int c1), .val (.int c2), .val (.int d0), .val (.int d1), .val (.int d2), .val (.ref a1), .val (.ref a3), .unset, .unset, .unset, .unset] [(.int n1)])) tt from XS.iload X3.here hx rfl (hb hby at_140) rfl zk
                suffices zk : Steps p.tables e below (T3.setTop (mkF m 143 #[.val (.int x0), .val (.int x1), .val (.int x2), .val (.int x3), .val (.int n1), .val (.int n2), .val (.int c0), .val (.int c1), .val (.int c2), .val (.int d0), .val (.int d1), .val (.int d2), .val (.ref a1), .val (.ref a3), .unset, .unset, .unset, .unset] [(.int (3 : Int32)), (.int n1)])) tt from XS.iconst X3.here hx rfl (hb hby at_142) zk
                suffices zk : Steps p.tables e below (T3.setTop (mkF m 146 #[.val (.int x0), .val (.int x1), .val (.int x2), .val (.int x3), .val (.int n1), .val (.int n2), .val (.int c0), .val (.int c1), .val (.int c2), .val (.int d0), .val (.int d1), .val (.int d2), .val (.ref a1), .val (.ref a3), .unset, .unset, .unset, .unset] [])) tt from XS.icmpNo X3.here hx rfl (hb hby at_143) rfl (flt hc143).1 zk
                suffices zk : Steps p.tables e below (T3.setTop (mkF m 148 #[.val (.int x0), .val (.int x1), .val (.int x2), .val (.int x3), .val (.int n1), .val (.int n2), .val (.int c0), .val (.int c1), .val (.int c2), .val (.int d0), .val (.int d1), .val (.int d2), .val (.ref a1), .val (.ref a3), .unset, .unset, .unset, .unset] [(.int c2)])) tt from XS.iload X3.here hx rfl (hb hby at_146) rfl zk
                suffices zk : Steps p.tables e below (T3.setTop (mkF m 150 #[.val (.int x0), .val (.int x1), .val (.int x2), .val (.int x3), .val (.int n1), .val (.int n2), .val (.int c0), .val (.int c1), .val (.int c2), .val (.int d0), .val (.int d1), .val (.int d2), .val (.ref a1), .val (.ref a3), .unset, .unset, .unset, .unset] [(.int d2), (.int c2)])) tt from XS.iload X3.here hx rfl (hb hby at_148) rfl zk
                suffices zk : Steps p.tables e below (T3.setTop (mkF m 157 #[.val (.int x0), .val (.int x1), .val (.int x2), .val (.int x3), .val (.int n1), .val (.int n2), .val (.int c0), .val (.int c1), .val (.int c2), .val (.int d0), .val (.int d1), .val (.int d2), .val (.ref a1), .val (.ref a3), .unset, .unset, .unset, .unset] [])) tt from XS.icmpYes X3.here hx rfl (pc0 := 150) (pc' := 157) rfl (hb hby at_150) rfl (feq hc150).2 (by decide) (by decide) zk
                suffices zk : Steps p.tables e below (T3.setTop (mkF m 158 #[.val (.int x0), .val (.int x1), .val (.int x2), .val (.int x3), .val (.int n1), .val (.int n2), .val (.int c0), .val (.int c1), .val (.int c2), .val (.int d0), .val (.int d1), .val (.int d2), .val (.ref a1), .val (.ref a3), .unset, .unset, .unset, .unset] [(.int (0 : Int32))])) tt from XS.iconst X3.here hx rfl (hb hby at_157) zk
                exact zk
          · refine ⟨(0 : Int32), (by simp [same, ← hc111, hc117, hc130, hc137]), fun tt zk => ?_⟩
            suffices zk : Steps p.tables e below (T3.setTop (mkF m 109 #[.val (.int x0), .val (.int x1), .val (.int x2), .val (.int x3), .val (.int n1), .val (.int n2), .val (.int c0), .val (.int c1), .val (.int c2), .val (.int d0), .val (.int d1), .val (.int d2), .val (.ref a1), .val (.ref a3), .unset, .unset, .unset, .unset] [(.int n1)])) tt from XS.iload X3.here hx rfl (hb hby at_107) rfl zk
            suffices zk : Steps p.tables e below (T3.setTop (mkF m 111 #[.val (.int x0), .val (.int x1), .val (.int x2), .val (.int x3), .val (.int n1), .val (.int n2), .val (.int c0), .val (.int c1), .val (.int c2), .val (.int d0), .val (.int d1), .val (.int d2), .val (.ref a1), .val (.ref a3), .unset, .unset, .unset, .unset] [(.int n2), (.int n1)])) tt from XS.iload X3.here hx rfl (hb hby at_109) rfl zk
            suffices zk : Steps p.tables e below (T3.setTop (mkF m 114 #[.val (.int x0), .val (.int x1), .val (.int x2), .val (.int x3), .val (.int n1), .val (.int n2), .val (.int c0), .val (.int c1), .val (.int c2), .val (.int d0), .val (.int d1), .val (.int d2), .val (.ref a1), .val (.ref a3), .unset, .unset, .unset, .unset] [])) tt from XS.icmpNo X3.here hx rfl (hb hby at_111) rfl (teq hc111).2 zk
            suffices zk : Steps p.tables e below (T3.setTop (mkF m 116 #[.val (.int x0), .val (.int x1), .val (.int x2), .val (.int x3), .val (.int n1), .val (.int n2), .val (.int c0), .val (.int c1), .val (.int c2), .val (.int d0), .val (.int d1), .val (.int d2), .val (.ref a1), .val (.ref a3), .unset, .unset, .unset, .unset] [(.int n1)])) tt from XS.iload X3.here hx rfl (hb hby at_114) rfl zk
            suffices zk : Steps p.tables e below (T3.setTop (mkF m 117 #[.val (.int x0), .val (.int x1), .val (.int x2), .val (.int x3), .val (.int n1), .val (.int n2), .val (.int c0), .val (.int c1), .val (.int c2), .val (.int d0), .val (.int d1), .val (.int d2), .val (.ref a1), .val (.ref a3), .unset, .unset, .unset, .unset] [(.int (1 : Int32)), (.int n1)])) tt from XS.iconst X3.here hx rfl (hb hby at_116) zk
            suffices zk : Steps p.tables e below (T3.setTop (mkF m 127 #[.val (.int x0), .val (.int x1), .val (.int x2), .val (.int x3), .val (.int n1), .val (.int n2), .val (.int c0), .val (.int c1), .val (.int c2), .val (.int d0), .val (.int d1), .val (.int d2), .val (.ref a1), .val (.ref a3), .unset, .unset, .unset, .unset] [])) tt from XS.icmpYes X3.here hx rfl (pc0 := 117) (pc' := 127) rfl (hb hby at_117) rfl (tlt hc117).1 (by decide) (by decide) zk
            suffices zk : Steps p.tables e below (T3.setTop (mkF m 129 #[.val (.int x0), .val (.int x1), .val (.int x2), .val (.int x3), .val (.int n1), .val (.int n2), .val (.int c0), .val (.int c1), .val (.int c2), .val (.int d0), .val (.int d1), .val (.int d2), .val (.ref a1), .val (.ref a3), .unset, .unset, .unset, .unset] [(.int n1)])) tt from XS.iload X3.here hx rfl (hb hby at_127) rfl zk
            suffices zk : Steps p.tables e below (T3.setTop (mkF m 130 #[.val (.int x0), .val (.int x1), .val (.int x2), .val (.int x3), .val (.int n1), .val (.int n2), .val (.int c0), .val (.int c1), .val (.int c2), .val (.int d0), .val (.int d1), .val (.int d2), .val (.ref a1), .val (.ref a3), .unset, .unset, .unset, .unset] [(.int (2 : Int32)), (.int n1)])) tt from XS.iconst X3.here hx rfl (hb hby at_129) zk
            suffices zk : Steps p.tables e below (T3.setTop (mkF m 133 #[.val (.int x0), .val (.int x1), .val (.int x2), .val (.int x3), .val (.int n1), .val (.int n2), .val (.int c0), .val (.int c1), .val (.int c2), .val (.int d0), .val (.int d1), .val (.int d2), .val (.ref a1), .val (.ref a3), .unset, .unset, .unset, .unset] [])) tt from XS.icmpNo X3.here hx rfl (hb hby at_130) rfl (flt hc130).1 zk
            suffices zk : Steps p.tables e below (T3.setTop (mkF m 135 #[.val (.int x0), .val (.int x1), .val (.int x2), .val (.int x3), .val (.int n1), .val (.int n2), .val (.int c0), .val (.int c1), .val (.int c2), .val (.int d0), .val (.int d1), .val (.int d2), .val (.ref a1), .val (.ref a3), .unset, .unset, .unset, .unset] [(.int c1)])) tt from XS.iload X3.here hx rfl (hb hby at_133) rfl zk
            suffices zk : Steps p.tables e below (T3.setTop (mkF m 137 #[.val (.int x0), .val (.int x1), .val (.int x2), .val (.int x3), .val (.int n1), .val (.int n2), .val (.int c0), .val (.int c1), .val (.int c2), .val (.int d0), .val (.int d1), .val (.int d2), .val (.ref a1), .val (.ref a3), .unset, .unset, .unset, .unset] [(.int d1), (.int c1)])) tt from XS.iload X3.here hx rfl (hb hby at_135) rfl zk
            suffices zk : Steps p.tables e below (T3.setTop (mkF m 157 #[.val (.int x0), .val (.int x1), .val (.int x2), .val (.int x3), .val (.int n1), .val (.int n2), .val (.int c0), .val (.int c1), .val (.int c2), .val (.int d0), .val (.int d1), .val (.int d2), .val (.ref a1), .val (.ref a3), .unset, .unset, .unset, .unset] [])) tt from XS.icmpYes X3.here hx rfl (pc0 := 137) (pc' := 157) rfl (hb hby at_137) rfl (feq hc137).2 (by decide) (by decide) zk
            suffices zk : Steps p.tables e below (T3.setTop (mkF m 158 #[.val (.int x0), .val (.int x1), .val (.int x2), .val (.int x3), .val (.int n1), .val (.int n2), .val (.int c0), .val (.int c1), .val (.int c2), .val (.int d0), .val (.int d1), .val (.int d2), .val (.ref a1), .val (.ref a3), .unset, .unset, .unset, .unset] [(.int (0 : Int32))])) tt from XS.iconst X3.here hx rfl (hb hby at_157) zk
            exact zk
      · by_cases hc124 : c0 = d0
        · by_cases hc130 : n1 < (2 : Int32)
          · by_cases hc143 : n1 < (3 : Int32)
            · refine ⟨(1 : Int32), (by simp [same, ← hc111, hc117, ← hc124, hc130, hc143]), fun tt zk => ?_⟩
              suffices zk : Steps p.tables e below (T3.setTop (mkF m 109 #[.val (.int x0), .val (.int x1), .val (.int x2), .val (.int x3), .val (.int n1), .val (.int n2), .val (.int c0), .val (.int c1), .val (.int c2), .val (.int d0), .val (.int d1), .val (.int d2), .val (.ref a1), .val (.ref a3), .unset, .unset, .unset, .unset] [(.int n1)])) tt from XS.iload X3.here hx rfl (hb hby at_107) rfl zk
              suffices zk : Steps p.tables e below (T3.setTop (mkF m 111 #[.val (.int x0), .val (.int x1), .val (.int x2), .val (.int x3), .val (.int n1), .val (.int n2), .val (.int c0), .val (.int c1), .val (.int c2), .val (.int d0), .val (.int d1), .val (.int d2), .val (.ref a1), .val (.ref a3), .unset, .unset, .unset, .unset] [(.int n2), (.int n1)])) tt from XS.iload X3.here hx rfl (hb hby at_109) rfl zk
              suffices zk : Steps p.tables e below (T3.setTop (mkF m 114 #[.val (.int x0), .val (.int x1), .val (.int x2), .val (.int x3), .val (.int n1), .val (.int n2), .val (.int c0), .val (.int c1), .val (.int c2), .val (.int d0), .val (.int d1), .val (.int d2), .val (.ref a1), .val (.ref a3), .unset, .unset, .unset, .unset] [])) tt from XS.icmpNo X3.here hx rfl (hb hby at_111) rfl (teq hc111).2 zk
              suffices zk : Steps p.tables e below (T3.setTop (mkF m 116 #[.val (.int x0), .val (.int x1), .val (.int x2), .val (.int x3), .val (.int n1), .val (.int n2), .val (.int c0), .val (.int c1), .val (.int c2), .val (.int d0), .val (.int d1), .val (.int d2), .val (.ref a1), .val (.ref a3), .unset, .unset, .unset, .unset] [(.int n1)])) tt from XS.iload X3.here hx rfl (hb hby at_114) rfl zk
              suffices zk : Steps p.tables e below (T3.setTop (mkF m 117 #[.val (.int x0), .val (.int x1), .val (.int x2), .val (.int x3), .val (.int n1), .val (.int n2), .val (.int c0), .val (.int c1), .val (.int c2), .val (.int d0), .val (.int d1), .val (.int d2), .val (.ref a1), .val (.ref a3), .unset, .unset, .unset, .unset] [(.int (1 : Int32)), (.int n1)])) tt from XS.iconst X3.here hx rfl (hb hby at_116) zk
              suffices zk : Steps p.tables e below (T3.setTop (mkF m 120 #[.val (.int x0), .val (.int x1), .val (.int x2), .val (.int x3), .val (.int n1), .val (.int n2), .val (.int c0), .val (.int c1), .val (.int c2), .val (.int d0), .val (.int d1), .val (.int d2), .val (.ref a1), .val (.ref a3), .unset, .unset, .unset, .unset] [])) tt from XS.icmpNo X3.here hx rfl (hb hby at_117) rfl (flt hc117).1 zk
              suffices zk : Steps p.tables e below (T3.setTop (mkF m 122 #[.val (.int x0), .val (.int x1), .val (.int x2), .val (.int x3), .val (.int n1), .val (.int n2), .val (.int c0), .val (.int c1), .val (.int c2), .val (.int d0), .val (.int d1), .val (.int d2), .val (.ref a1), .val (.ref a3), .unset, .unset, .unset, .unset] [(.int c0)])) tt from XS.iload X3.here hx rfl (hb hby at_120) rfl zk
              suffices zk : Steps p.tables e below (T3.setTop (mkF m 124 #[.val (.int x0), .val (.int x1), .val (.int x2), .val (.int x3), .val (.int n1), .val (.int n2), .val (.int c0), .val (.int c1), .val (.int c2), .val (.int d0), .val (.int d1), .val (.int d2), .val (.ref a1), .val (.ref a3), .unset, .unset, .unset, .unset] [(.int d0), (.int c0)])) tt from XS.iload X3.here hx rfl (hb hby at_122) rfl zk
              suffices zk : Steps p.tables e below (T3.setTop (mkF m 127 #[.val (.int x0), .val (.int x1), .val (.int x2), .val (.int x3), .val (.int n1), .val (.int n2), .val (.int c0), .val (.int c1), .val (.int c2), .val (.int d0), .val (.int d1), .val (.int d2), .val (.ref a1), .val (.ref a3), .unset, .unset, .unset, .unset] [])) tt from XS.icmpNo X3.here hx rfl (hb hby at_124) rfl (teq hc124).2 zk
              suffices zk : Steps p.tables e below (T3.setTop (mkF m 129 #[.val (.int x0), .val (.int x1), .val (.int x2), .val (.int x3), .val (.int n1), .val (.int n2), .val (.int c0), .val (.int c1), .val (.int c2), .val (.int d0), .val (.int d1), .val (.int d2), .val (.ref a1), .val (.ref a3), .unset, .unset, .unset, .unset] [(.int n1)])) tt from XS.iload X3.here hx rfl (hb hby at_127) rfl zk
              suffices zk : Steps p.tables e below (T3.setTop (mkF m 130 #[.val (.int x0), .val (.int x1), .val (.int x2), .val (.int x3), .val (.int n1), .val (.int n2), .val (.int c0), .val (.int c1), .val (.int c2), .val (.int d0), .val (.int d1), .val (.int d2), .val (.ref a1), .val (.ref a3), .unset, .unset, .unset, .unset] [(.int (2 : Int32)), (.int n1)])) tt from XS.iconst X3.here hx rfl (hb hby at_129) zk
              suffices zk : Steps p.tables e below (T3.setTop (mkF m 140 #[.val (.int x0), .val (.int x1), .val (.int x2), .val (.int x3), .val (.int n1), .val (.int n2), .val (.int c0), .val (.int c1), .val (.int c2), .val (.int d0), .val (.int d1), .val (.int d2), .val (.ref a1), .val (.ref a3), .unset, .unset, .unset, .unset] [])) tt from XS.icmpYes X3.here hx rfl (pc0 := 130) (pc' := 140) rfl (hb hby at_130) rfl (tlt hc130).1 (by decide) (by decide) zk
              suffices zk : Steps p.tables e below (T3.setTop (mkF m 142 #[.val (.int x0), .val (.int x1), .val (.int x2), .val (.int x3), .val (.int n1), .val (.int n2), .val (.int c0), .val (.int c1), .val (.int c2), .val (.int d0), .val (.int d1), .val (.int d2), .val (.ref a1), .val (.ref a3), .unset, .unset, .unset, .unset] [(.int n1)])) tt from XS.iload X3.here hx rfl (hb hby at_140) rfl zk
              suffices zk : Steps p.tables e below (T3.setTop (mkF m 143 #[.val (.int x0), .val (.int x1), .val (.int x2), .val (.int x3), .val (.int n1), .val (.int n2), .val (.int c0), .val (.int c1), .val (.int c2), .val (.int d0), .val (.int d1), .val (.int d2), .val (.ref a1), .val (.ref a3), .unset, .unset, .unset, .unset] [(.int (3 : Int32)), (.int n1)])) tt from XS.iconst X3.here hx rfl (hb hby at_142) zk
              suffices zk : Steps p.tables e below (T3.setTop (mkF m 153 #[.val (.int x0), .val (.int x1), .val (.int x2), .val (.int x3), .val (.int n1), .val (.int n2), .val (.int c0), .val (.int c1), .val (.int c2), .val (.int d0), .val (.int d1), .val (.int d2), .val (.ref a1), .val (.ref a3), .unset, .unset, .unset, .unset] [])) tt from XS.icmpYes X3.here hx rfl (pc0 := 143) (pc' := 153) rfl (hb hby at_143) rfl (tlt hc143).1 (by decide) (by decide) zk
              suffices zk : Steps p.tables e below (T3.setTop (mkF m 154 #[.val (.int x0), .val (.int x1), .val (.int x2), .val (.int x3), .val (.int n1), .val (.int n2), .val (.int c0), .val (.int c1), .val (.int c2), .val (.int d0), .val (.int d1), .val (.int d2), .val (.ref a1), .val (.ref a3), .unset, .unset, .unset, .unset] [(.int (1 : Int32))])) tt from XS.iconst X3.here hx rfl (hb hby at_153) zk
              suffices zk : Steps p.tables e below (T3.setTop (mkF m 158 #[.val (.int x0), .val (.int x1), .val (.int x2), .val (.int x3), .val (.int n1), .val (.int n2), .val (.int c0), .val (.int c1), .val (.int c2), .val (.int d0), .val (.int d1), .val (.int d2), .val (.ref a1), .val (.ref a3), .unset, .unset, .unset, .unset] [(.int (1 : Int32))])) tt from XS.goto X3.here hx rfl (pc0 := 154) (pc' := 158) rfl (hb hby at_154) (by decide) (by decide) zk
              exact zk
            · by_cases hc150 : c2 = d2
              · refine ⟨(1 : Int32), (by simp [same, ← hc111, hc117, ← hc124, hc130, hc143, ← hc150]), fun tt zk => ?_⟩
                suffices zk : Steps p.tables e below (T3.setTop (mkF m 109 #[.val (.int x0), .val (.int x1), .val (.int x2), .val (.int x3), .val (.int n1), .val (.int n2), .val (.int c0), .val (.int c1), .val (.int c2), .val (.int d0), .val (.int d1), .val (.int d2), .val (.ref a1), .val (.ref a3), .unset, .unset, .unset, .unset] [(.int n1)])) tt from XS.iload X3.here hx rfl (hb hby at_107) rfl zk
                suffices zk : Steps p.tables e below (T3.setTop (mkF m 111 #[.val (.int x0), .val (.int x1), .val (.int x2), .val (.int x3), .val (.int n1), .val (.int n2), .val (.int c0), .val (.int c1), .val (.int c2), .val (.int d0), .val (.int d1), .val (.int d2), .val (.ref a1), .val (.ref a3), .unset, .unset, .unset, .unset] [(.int n2), (.int n1)])) tt from XS.iload X3.here hx rfl (hb hby at_109) rfl zk
                suffices zk : Steps p.tables e below (T3.setTop (mkF m 114 #[.val (.int x0), .val (.int x1), .val (.int x2), .val (.int x3), .val (.int n1), .val (.int n2), .val (.int c0), .val (.int c1), .val (.int c2), .val (.int d0), .val (.int d1), .val (.int d2), .val (.ref a1), .val (.ref a3), .unset, .unset, .unset, .unset] [])) tt from XS.icmpNo X3.here hx rfl (hb hby at_111) rfl (teq hc111).2 zk
                suffices zk : Steps p.tables e below (T3.setTop (mkF m 116 #[.val (.int x0), .val (.int x1), .val (.int x2), .val (.int x3), .val (.int n1), .val (.int n2), .val (.int c0), .val (.int c1), .val (.int c2), .val (.int d0), .val (.int d1), .val (.int d2), .val (.ref a1), .val (.ref a3), .unset, .unset, .unset, .unset] [(.int n1)])) tt from XS.iload X3.here hx rfl (hb hby at_114) rfl zk
                suffices zk : Steps p.tables e below (T3.setTop (mkF m 117 #[.val (.int x0), .val (.int x1), .val (.int x2), .val (.int x3), .val (.int n1), .val (.int n2), .val (.int c0), .val (.int c1), .val (.int c2), .val (.int d0), .val (.int d1), .val (.int d2), .val (.ref a1), .val (.ref a3), .unset, .unset, .unset, .unset] [(.int (1 : Int32)), (.int n1)])) tt from XS.iconst X3.here hx rfl (hb hby at_116) zk
                suffices zk : Steps p.tables e below (T3.setTop (mkF m 120 #[.val (.int x0), .val (.int x1), .val (.int x2), .val (.int x3), .val (.int n1), .val (.int n2), .val (.int c0), .val (.int c1), .val (.int c2), .val (.int d0), .val (.int d1), .val (.int d2), .val (.ref a1), .val (.ref a3), .unset, .unset, .unset, .unset] [])) tt from XS.icmpNo X3.here hx rfl (hb hby at_117) rfl (flt hc117).1 zk
                suffices zk : Steps p.tables e below (T3.setTop (mkF m 122 #[.val (.int x0), .val (.int x1), .val (.int x2), .val (.int x3), .val (.int n1), .val (.int n2), .val (.int c0), .val (.int c1), .val (.int c2), .val (.int d0), .val (.int d1), .val (.int d2), .val (.ref a1), .val (.ref a3), .unset, .unset, .unset, .unset] [(.int c0)])) tt from XS.iload X3.here hx rfl (hb hby at_120) rfl zk
                suffices zk : Steps p.tables e below (T3.setTop (mkF m 124 #[.val (.int x0), .val (.int x1), .val (.int x2), .val (.int x3), .val (.int n1), .val (.int n2), .val (.int c0), .val (.int c1), .val (.int c2), .val (.int d0), .val (.int d1), .val (.int d2), .val (.ref a1), .val (.ref a3), .unset, .unset, .unset, .unset] [(.int d0), (.int c0)])) tt from XS.iload X3.here hx rfl (hb hby at_122) rfl zk
                suffices zk : Steps p.tables e below (T3.setTop (mkF m 127 #[.val (.int x0), .val (.int x1), .val (.int x2), .val (.int x3), .val (.int n1), .val (.int n2), .val (.int c0), .val (.int c1), .val (.int c2), .val (.int d0), .val (.int d1), .val (.int d2), .val (.ref a1), .val (.ref a3), .unset, .unset, .unset, .unset] [])) tt from XS.icmpNo X3.here hx rfl (hb hby at_124) rfl (teq hc124).2 zk
                suffices zk : Steps p.tables e below (T3.setTop (mkF m 129 #[.val (.int x0), .val (.int x1), .val (.int x2), .val (.int x3), .val (.int n1), .val (.int n2), .val (.int c0), .val (.int c1), .val (.int c2), .val (.int d0), .val (.int d1), .val (.int d2), .val (.ref a1), .val (.ref a3), .unset, .unset, .unset, .unset] [(.int n1)])) tt from XS.iload X3.here hx rfl (hb hby at_127) rfl zk
                suffices zk : Steps p.tables e below (T3.setTop (mkF m 130 #[.val (.int x0), .val (.int x1), .val (.int x2), .val (.int x3), .val (.int n1), .val (.int n2), .val (.int c0), .val (.int c1), .val (.int c2), .val (.int d0), .val (.int d1), .val (.int d2), .val (.ref a1), .val (.ref a3), .unset, .unset, .unset, .unset] [(.int (2 : Int32)), (.int n1)])) tt from XS.iconst X3.here hx rfl (hb hby at_129) zk
                suffices zk : Steps p.tables e below (T3.setTop (mkF m 140 #[.val (.int x0), .val (.int x1), .val (.int x2), .val (.int x3), .val (.int n1), .val (.int n2), .val (.int c0), .val (.int c1), .val (.int c2), .val (.int d0), .val (.int d1), .val (.int d2), .val (.ref a1), .val (.ref a3), .unset, .unset, .unset, .unset] [])) tt from XS.icmpYes X3.here hx rfl (pc0 := 130) (pc' := 140) rfl (hb hby at_130) rfl (tlt hc130).1 (by decide) (by decide) zk
                suffices zk : Steps p.tables e below (T3.setTop (mkF m 142 #[.val (.int x0), .val (.int x1), .val (.int x2), .val (.int x3), .val (.int n1), .val (.int n2), .val (.int c0), .val (.int c1), .val (.int c2), .val (.int d0), .val (.int d1), .val (.int d2), .val (.ref a1), .val (.ref a3), .unset, .unset, .unset, .unset] [(.int n1)])) tt from XS.iload X3.here hx rfl (hb hby at_140) rfl zk
                suffices zk : Steps p.tables e below (T3.setTop (mkF m 143 #[.val (.int x0), .val (.int x1), .val (.int x2), .val (.int x3), .val (.int n1), .val (.int n2), .val (.int c0), .val (.int c1), .val (.int c2), .val (.int d0), .val (.int d1), .val (.int d2), .val (.ref a1), .val (.ref a3), .unset, .unset, .unset, .unset] [(.int (3 : Int32)), (.int n1)])) tt from XS.iconst X3.here hx rfl (hb hby at_142) zk
                suffices zk : Steps p.tables e below (T3.setTop (mkF m 146 #[.val (.int x0), .val (.int x1), .val (.int x2), .val (.int x3), .val (.int n1), .val (.int n2), .val (.int c0), .val (.int c1), .val (.int c2), .val (.int d0), .val (.int d1), .val (.int d2), .val (.ref a1), .val (.ref a3), .unset, .unset, .unset, .unset] [])) tt from XS.icmpNo X3.here hx rfl (hb hby at_143) rfl (flt hc143).1 zk
                suffices zk : Steps p.tables e below (T3.setTop (mkF m 148 #[.val (.int x0), .val (.int x1), .val (.int x2), .val (.int x3), .val (.int n1), .val (.int n2), .val (.int c0), .val (.int c1), .val (.int c2), .val (.int d0), .val (.int d1), .val (.int d2), .val (.ref a1), .val (.ref a3), .unset, .unset, .unset, .unset] [(.int c2)])) tt from XS.iload X3.here hx rfl (hb hby at_146) rfl zk
                suffices zk : Steps p.tables e below (T3.setTop (mkF m 150 #[.val (.int x0), .val (.int x1), .val (.int x2), .val (.int x3), .val (.int n1), .val (.int n2), .val (.int c0), .val (.int c1), .val (.int c2), .val (.int d0), .val (.int d1), .val (.int d2), .val (.ref a1), .val (.ref a3), .unset, .unset, .unset, .unset] [(.int d2), (.int c2)])) tt from XS.iload X3.here hx rfl (hb hby at_148) rfl zk
                suffices zk : Steps p.tables e below (T3.setTop (mkF m 153 #[.val (.int x0), .val (.int x1), .val (.int x2), .val (.int x3), .val (.int n1), .val (.int n2), .val (.int c0), .val (.int c1), .val (.int c2), .val (.int d0), .val (.int d1), .val (.int d2), .val (.ref a1), .val (.ref a3), .unset, .unset, .unset, .unset] [])) tt from XS.icmpNo X3.here hx rfl (hb hby at_150) rfl (teq hc150).2 zk
                suffices zk : Steps p.tables e below (T3.setTop (mkF m 154 #[.val (.int x0), .val (.int x1), .val (.int x2), .val (.int x3), .val (.int n1), .val (.int n2), .val (.int c0), .val (.int c1), .val (.int c2), .val (.int d0), .val (.int d1), .val (.int d2), .val (.ref a1), .val (.ref a3), .unset, .unset, .unset, .unset] [(.int (1 : Int32))])) tt from XS.iconst X3.here hx rfl (hb hby at_153) zk
                suffices zk : Steps p.tables e below (T3.setTop (mkF m 158 #[.val (.int x0), .val (.int x1), .val (.int x2), .val (.int x3), .val (.int n1), .val (.int n2), .val (.int c0), .val (.int c1), .val (.int c2), .val (.int d0), .val (.int d1), .val (.int d2), .val (.ref a1), .val (.ref a3), .unset, .unset, .unset, .unset] [(.int (1 : Int32))])) tt from XS.goto X3.here hx rfl (pc0 := 154) (pc' := 158) rfl (hb hby at_154) (by decide) (by decide) zk
                exact zk
              · refine ⟨(0 : Int32), (by simp [same, ← hc111, hc117, ← hc124, hc130, hc143, hc150]), fun tt zk => ?_⟩
                suffices zk : Steps p.tables e below (T3.setTop (mkF m 109 #[.val (.int x0), .val (.int x1), .val (.int x2), .val (.int x3), .val (.int n1), .val (.int n2), .val (.int c0), .val (.int c1), .val (.int c2), .val (.int d0), .val (.int d1), .val (.int d2), .val (.ref a1), .val (.ref a3), .unset, .unset, .unset, .unset] [(.int n1)])) tt from XS.iload X3.here hx rfl (hb hby at_107) rfl zk
                suffices zk : Steps p.tables e below (T3.setTop (mkF m 111 #[.val (.int x0), .val (.int x1), .val (.int x2), .val (.int x3), .val (.int n1), .val (.int n2), .val (.int c0), .val (.int c1), .val (.int c2), .val (.int d0), .val (.int d1), .val (.int d2), .val (.ref a1), .val (.ref a3), .unset, .unset, .unset, .unset] [(.int n2), (.int n1)])) tt from XS.iload X3.here hx rfl (hb hby at_109) rfl zk
                suffices zk : Steps p.tables e below (T3.setTop (mkF m 114 #[.val (.int x0), .val (.int x1), .val (.int x2), .val (.int x3), .val (.int n1), .val (.int n2), .val (.int c0), .val (.int c1), .val (.int c2), .val (.int d0), .val (.int d1), .val (.int d2), .val (.ref a1), .val (.ref a3), .unset, .unset, .unset, .unset] [])) tt from XS.icmpNo X3.here hx rfl (hb hby at_111) rfl (teq hc111).2 zk
                suffices zk : Steps p.tables e below (T3.setTop (mkF m 116 #[.val (.int x0), .val (.int x1), .val (.int x2), .val (.int x3), .val (.int n1), .val (.int n2), .val (.int c0), .val (.int c1), .val (.int c2), .val (.int d0), .val (.int d1), .val (.int d2), .val (.ref a1), .val (.ref a3), .unset, .unset, .unset, .unset] [(.int n1)])) tt from XS.iload X3.here hx rfl (hb hby at_114) rfl zk
                suffices zk : Steps p.tables e below (T3.setTop (mkF m 117 #[.val (.int x0), .val (.int x1), .val (.int x2), .val (.int x3), .val (.int n1), .val (.int n2), .val (.int c0), .val (.int c1), .val (.int c2), .val (.int d0), .val (.int d1), .val (.int d2), .val (.ref a1), .val (.ref a3), .unset, .unset, .unset, .unset] [(.int (1 : Int32)), (.int n1)])) tt from XS.iconst X3.here hx rfl (hb hby at_116) zk
                suffices zk : Steps p.tables e below (T3.setTop (mkF m 120 #[.val (.int x0), .val (.int x1), .val (.int x2), .val (.int x3), .val (.int n1), .val (.int n2), .val (.int c0), .val (.int c1), .val (.int c2), .val (.int d0), .val (.int d1), .val (.int d2), .val (.ref a1), .val (.ref a3), .unset, .unset, .unset, .unset] [])) tt from XS.icmpNo X3.here hx rfl (hb hby at_117) rfl (flt hc117).1 zk
                suffices zk : Steps p.tables e below (T3.setTop (mkF m 122 #[.val (.int x0), .val (.int x1), .val (.int x2), .val (.int x3), .val (.int n1), .val (.int n2), .val (.int c0), .val (.int c1), .val (.int c2), .val (.int d0), .val (.int d1), .val (.int d2), .val (.ref a1), .val (.ref a3), .unset, .unset, .unset, .unset] [(.int c0)])) tt from XS.iload X3.here hx rfl (hb hby at_120) rfl zk
                suffices zk : Steps p.tables e below (T3.setTop (mkF m 124 #[.val (.int x0), .val (.int x1), .val (.int x2), .val (.int x3), .val (.int n1), .val (.int n2), .val (.int c0), .val (.int c1), .val (.int c2), .val (.int d0), .val (.int d1), .val (.int d2), .val (.ref a1), .val (.ref a3), .unset, .unset, .unset, .unset] [(.int d0), (.int c0)])) tt from XS.iload X3.here hx rfl (hb hby at_122) rfl zk
                suffices zk : Steps p.tables e below (T3.setTop (mkF m 127 #[.val (.int x0), .val (.int x1), .val (.int x2), .val (.int x3), .val (.int n1), .val (.int n2), .val (.int c0), .val (.int c1), .val (.int c2), .val (.int d0), .val (.int d1), .val (.int d2), .val (.ref a1), .val (.ref a3), .unset, .unset, .unset, .unset] [])) tt from XS.icmpNo X3.here hx rfl (hb hby at_124) rfl (teq hc124).2 zk
                suffices zk : Steps p.tables e below (T3.setTop (mkF m 129 #[.val (.int x0), .val (.int x1), .val (.int x2), .val (.int x3), .val (.int n1), .val (.int n2), .val (.int c0), .val (.int c1), .val (.int c2), .val (.int d0), .val (.int d1), .val (.int d2), .val (.ref a1), .val (.ref a3), .unset, .unset, .unset, .unset] [(.int n1)])) tt from XS.iload X3.here hx rfl (hb hby at_127) rfl zk
                suffices zk : Steps p.tables e below (T3.setTop (mkF m 130 #[.val (.int x0), .val (.int x1), .val (.int x2), .val (.int x3), .val (.int n1), .val (.int n2), .val (.int c0), .val (.int c1), .val (.int c2), .val (.int d0), .val (.int d1), .val (.int d2), .val (.ref a1), .val (.ref a3), .unset, .unset, .unset, .unset] [(.int (2 : Int32)), (.int n1)])) tt from XS.iconst X3.here hx rfl (hb hby at_129) zk
                suffices zk : Steps p.tables e below (T3.setTop (mkF m 140 #[.val (.int x0), .val (.int x1), .val (.int x2), .val (.int x3), .val (.int n1), .val (.int n2), .val (.int c0), .val (.int c1), .val (.int c2), .val (.int d0), .val (.int d1), .val (.int d2), .val (.ref a1), .val (.ref a3), .unset, .unset, .unset, .unset] [])) tt from XS.icmpYes X3.here hx rfl (pc0 := 130) (pc' := 140) rfl (hb hby at_130) rfl (tlt hc130).1 (by decide) (by decide) zk
                suffices zk : Steps p.tables e below (T3.setTop (mkF m 142 #[.val (.int x0), .val (.int x1), .val (.int x2), .val (.int x3), .val (.int n1), .val (.int n2), .val (.int c0), .val (.int c1), .val (.int c2), .val (.int d0), .val (.int d1), .val (.int d2), .val (.ref a1), .val (.ref a3), .unset, .unset, .unset, .unset] [(.int n1)])) tt from XS.iload X3.here hx rfl (hb hby at_140) rfl zk
                suffices zk : Steps p.tables e below (T3.setTop (mkF m 143 #[.val (.int x0), .val (.int x1), .val (.int x2), .val (.int x3), .val (.int n1), .val (.int n2), .val (.int c0), .val (.int c1), .val (.int c2), .val (.int d0), .val (.int d1), .val (.int d2), .val (.ref a1), .val (.ref a3), .unset, .unset, .unset, .unset] [(.int (3 : Int32)), (.int n1)])) tt from XS.iconst X3.here hx rfl (hb hby at_142) zk
                suffices zk : Steps p.tables e below (T3.setTop (mkF m 146 #[.val (.int x0), .val (.int x1), .val (.int x2), .val (.int x3), .val (.int n1), .val (.int n2), .val (.int c0), .val (.int c1), .val (.int c2), .val (.int d0), .val (.int d1), .val (.int d2), .val (.ref a1), .val (.ref a3), .unset, .unset, .unset, .unset] [])) tt from XS.icmpNo X3.here hx rfl (hb hby at_143) rfl (flt hc143).1 zk
                suffices zk : Steps p.tables e below (T3.setTop (mkF m 148 #[.val (.int x0), .val (.int x1), .val (.int x2), .val (.int x3), .val (.int n1), .val (.int n2), .val (.int c0), .val (.int c1), .val (.int c2), .val (.int d0), .val (.int d1), .val (.int d2), .val (.ref a1), .val (.ref a3), .unset, .unset, .unset, .unset] [(.int c2)])) tt from XS.iload X3.here hx rfl (hb hby at_146) rfl zk
                suffices zk : Steps p.tables e below (T3.setTop (mkF m 150 #[.val (.int x0), .val (.int x1), .val (.int x2), .val (.int x3), .val (.int n1), .val (.int n2), .val (.int c0), .val (.int c1), .val (.int c2), .val (.int d0), .val (.int d1), .val (.int d2), .val (.ref a1), .val (.ref a3), .unset, .unset, .unset, .unset] [(.int d2), (.int c2)])) tt from XS.iload X3.here hx rfl (hb hby at_148) rfl zk
                suffices zk : Steps p.tables e below (T3.setTop (mkF m 157 #[.val (.int x0), .val (.int x1), .val (.int x2), .val (.int x3), .val (.int n1), .val (.int n2), .val (.int c0), .val (.int c1), .val (.int c2), .val (.int d0), .val (.int d1), .val (.int d2), .val (.ref a1), .val (.ref a3), .unset, .unset, .unset, .unset] [])) tt from XS.icmpYes X3.here hx rfl (pc0 := 150) (pc' := 157) rfl (hb hby at_150) rfl (feq hc150).2 (by decide) (by decide) zk
                suffices zk : Steps p.tables e below (T3.setTop (mkF m 158 #[.val (.int x0), .val (.int x1), .val (.int x2), .val (.int x3), .val (.int n1), .val (.int n2), .val (.int c0), .val (.int c1), .val (.int c2), .val (.int d0), .val (.int d1), .val (.int d2), .val (.ref a1), .val (.ref a3), .unset, .unset, .unset, .unset] [(.int (0 : Int32))])) tt from XS.iconst X3.here hx rfl (hb hby at_157) zk
                exact zk
          · by_cases hc137 : c1 = d1
            · by_cases hc143 : n1 < (3 : Int32)
              · refine ⟨(1 : Int32), (by simp [same, ← hc111, hc117, ← hc124, hc130, ← hc137, hc143]), fun tt zk => ?_⟩
                suffices zk : Steps p.tables e below (T3.setTop (mkF m 109 #[.val (.int x0), .val (.int x1), .val (.int x2), .val (.int x3), .val (.int n1), .val (.int n2), .val (.int c0), .val (.int c1), .val (.int c2), .val (.int d0), .val (.int d1), .val (.int d2), .val (.ref a1), .val (.ref a3), .unset, .unset, .unset, .unset] [(.int n1)])) tt from XS.iload X3.here hx rfl (hb hby at_107) rfl zk
                suffices zk : Steps p.tables e below (T3.setTop (mkF m 111 #[.val (.int x0), .val (.int x1), .val (.int x2), .val (.int x3), .val (.int n1), .val (.int n2), .val (.int c0), .val (.int c1), .val (.int c2), .val (.int d0), .val (.int d1), .val (.int d2), .val (.ref a1), .val (.ref a3), .unset, .unset, .unset, .unset] [(.int n2), (.int n1)])) tt from XS.iload X3.here hx rfl (hb hby at_109) rfl zk
                suffices zk : Steps p.tables e below (T3.setTop (mkF m 114 #[.val (.int x0), .val (.int x1), .val (.int x2), .val (.int x3), .val (.int n1), .val (.int n2), .val (.int c0), .val (.int c1), .val (.int c2), .val (.int d0), .val (.int d1), .val (.int d2), .val (.ref a1), .val (.ref a3), .unset, .unset, .unset, .unset] [])) tt from XS.icmpNo X3.here hx rfl (hb hby at_111) rfl (teq hc111).2 zk
                suffices zk : Steps p.tables e below (T3.setTop (mkF m 116 #[.val (.int x0), .val (.int x1), .val (.int x2), .val (.int x3), .val (.int n1), .val (.int n2), .val (.int c0), .val (.int c1), .val (.int c2), .val (.int d0), .val (.int d1), .val (.int d2), .val (.ref a1), .val (.ref a3), .unset, .unset, .unset, .unset] [(.int n1)])) tt from XS.iload X3.here hx rfl (hb hby at_114) rfl zk
                suffices zk : Steps p.tables e below (T3.setTop (mkF m 117 #[.val (.int x0), .val (.int x1), .val (.int x2), .val (.int x3), .val (.int n1), .val (.int n2), .val (.int c0), .val (.int c1), .val (.int c2), .val (.int d0), .val (.int d1), .val (.int d2), .val (.ref a1), .val (.ref a3), .unset, .unset, .unset, .unset] [(.int (1 : Int32)), (.int n1)])) tt from XS.iconst X3.here hx rfl (hb hby at_116) zk
                suffices zk : Steps p.tables e below (T3.setTop (mkF m 120 #[.val (.int x0), .val (.int x1), .val (.int x2), .val (.int x3), .val (.int n1), .val (.int n2), .val (.int c0), .val (.int c1), .val (.int c2), .val (.int d0), .val (.int d1), .val (.int d2), .val (.ref a1), .val (.ref a3), .unset, .unset, .unset, .unset] [])) tt from XS.icmpNo X3.here hx rfl (hb hby at_117) rfl (flt hc117).1 zk
                suffices zk : Steps p.tables e below (T3.setTop (mkF m 122 #[.val (.int x0), .val (.int x1), .val (.int x2), .val (.int x3), .val (.int n1), .val (.int n2), .val (.int c0), .val (.int c1), .val (.int c2), .val (.int d0), .val (.int d1), .val (.int d2), .val (.ref a1), .val (.ref a3), .unset, .unset, .unset, .unset] [(.int c0)])) tt from XS.iload X3.here hx rfl (hb hby at_120) rfl zk
                suffices zk : Steps p.tables e below (T3.setTop (mkF m 124 #[.val (.int x0), .val (.int x1), .val (.int x2), .val (.int x3), .val (.int n1), .val (.int n2), .val (.int c0), .val (.int c1), .val (.int c2), .val (.int d0), .val (.int d1), .val (.int d2), .val (.ref a1), .val (.ref a3), .unset, .unset, .unset, .unset] [(.int d0), (.int c0)])) tt from XS.iload X3.here hx rfl (hb hby at_122) rfl zk
                suffices zk : Steps p.tables e below (T3.setTop (mkF m 127 #[.val (.int x0), .val (.int x1), .val (.int x2), .val (.int x3), .val (.int n1), .val (.int n2), .val (.int c0), .val (.int c1), .val (.int c2), .val (.int d0), .val (.int d1), .val (.int d2), .val (.ref a1), .val (.ref a3), .unset, .unset, .unset, .unset] [])) tt from XS.icmpNo X3.here hx rfl (hb hby at_124) rfl (teq hc124).2 zk
                suffices zk : Steps p.tables e below (T3.setTop (mkF m 129 #[.val (.int x0), .val (.int x1), .val (.int x2), .val (.int x3), .val (.int n1), .val (.int n2), .val (.int c0), .val (.int c1), .val (.int c2), .val (.int d0), .val (.int d1), .val (.int d2), .val (.ref a1), .val (.ref a3), .unset, .unset, .unset, .unset] [(.int n1)])) tt from XS.iload X3.here hx rfl (hb hby at_127) rfl zk
                suffices zk : Steps p.tables e below (T3.setTop (mkF m 130 #[.val (.int x0), .val (.int x1), .val (.int x2), .val (.int x3), .val (.int n1), .val (.int n2), .val (.int c0), .val (.int c1), .val (.int c2), .val (.int d0), .val (.int d1), .val (.int d2), .val (.ref a1), .val (.ref a3), .unset, .unset, .unset, .unset] [(.int (2 : Int32)), (.int n1)])) tt from XS.iconst X3.here hx rfl (hb hby at_129) zk
                suffices zk : Steps p.tables e below (T3.setTop (mkF m 133 #[.val (.int x0), .val (.int x1), .val (.int x2), .val (.int x3), .val (.int n1), .val (.int n2), .val (.int c0), .val (.int c1), .val (.int c2), .val (.int d0), .val (.int d1), .val (.int d2), .val (.ref a1), .val (.ref a3), .unset, .unset, .unset, .unset] [])) tt from XS.icmpNo X3.here hx rfl (hb hby at_130) rfl (flt hc130).1 zk
                suffices zk : Steps p.tables e below (T3.setTop (mkF m 135 #[.val (.int x0), .val (.int x1), .val (.int x2), .val (.int x3), .val (.int n1), .val (.int n2), .val (.int c0), .val (.int c1), .val (.int c2), .val (.int d0), .val (.int d1), .val (.int d2), .val (.ref a1), .val (.ref a3), .unset, .unset, .unset, .unset] [(.int c1)])) tt from XS.iload X3.here hx rfl (hb hby at_133) rfl zk
                suffices zk : Steps p.tables e below (T3.setTop (mkF m 137 #[.val (.int x0), .val (.int x1), .val (.int x2), .val (.int x3), .val (.int n1), .val (.int n2), .val (.int c0), .val (.int c1), .val (.int c2), .val (.int d0), .val (.int d1), .val (.int d2), .val (.ref a1), .val (.ref a3), .unset, .unset, .unset, .unset] [(.int d1), (.int c1)])) tt from XS.iload X3.here hx rfl (hb hby at_135) rfl zk
                suffices zk : Steps p.tables e below (T3.setTop (mkF m 140 #[.val (.int x0), .val (.int x1), .val (.int x2), .val (.int x3), .val (.int n1), .val (.int n2), .val (.int c0), .val (.int c1), .val (.int c2), .val (.int d0), .val (.int d1), .val (.int d2), .val (.ref a1), .val (.ref a3), .unset, .unset, .unset, .unset] [])) tt from XS.icmpNo X3.here hx rfl (hb hby at_137) rfl (teq hc137).2 zk
                suffices zk : Steps p.tables e below (T3.setTop (mkF m 142 #[.val (.int x0), .val (.int x1), .val (.int x2), .val (.int x3), .val (.int n1), .val (.int n2), .val (.int c0), .val (.int c1), .val (.int c2), .val (.int d0), .val (.int d1), .val (.int d2), .val (.ref a1), .val (.ref a3), .unset, .unset, .unset, .unset] [(.int n1)])) tt from XS.iload X3.here hx rfl (hb hby at_140) rfl zk
                suffices zk : Steps p.tables e below (T3.setTop (mkF m 143 #[.val (.int x0), .val (.int x1), .val (.int x2), .val (.int x3), .val (.int n1), .val (.int n2), .val (.int c0), .val (.int c1), .val (.int c2), .val (.int d0), .val (.int d1), .val (.int d2), .val (.ref a1), .val (.ref a3), .unset, .unset, .unset, .unset] [(.int (3 : Int32)), (.int n1)])) tt from XS.iconst X3.here hx rfl (hb hby at_142) zk
                suffices zk : Steps p.tables e below (T3.setTop (mkF m 153 #[.val (.int x0), .val (.int x1), .val (.int x2), .val (.int x3), .val (.int n1), .val (.int n2), .val (.int c0), .val (.int c1), .val (.int c2), .val (.int d0), .val (.int d1), .val (.int d2), .val (.ref a1), .val (.ref a3), .unset, .unset, .unset, .unset] [])) tt from XS.icmpYes X3.here hx rfl (pc0 := 143) (pc' := 153) rfl (hb hby at_143) rfl (tlt hc143).1 (by decide) (by decide) zk
                suffices zk : Steps p.tables e below (T3.setTop (mkF m 154 #[.val (.int x0), .val (.int x1), .val (.int x2), .val (.int x3), .val (.int n1), .val (.int n2), .val (.int c0), .val (.int c1), .val (.int c2), .val (.int d0), .val (.int d1), .val (.int d2), .val (.ref a1), .val (.ref a3), .unset, .unset, .unset, .unset] [(.int (1 : Int32))])) tt from XS.iconst X3.here hx rfl (hb hby at_153) zk
                suffices zk : Steps p.tables e below (T3.setTop (mkF m 158 #[.val (.int x0), .val (.int x1), .val (.int x2), .val (.int x3), .val (.int n1), .val (.int n2), .val (.int c0), .val (.int c1), .val (.int c2), .val (.int d0), .val (.int d1), .val (.int d2), .val (.ref a1), .val (.ref a3), .unset, .unset, .unset, .unset] [(.int (1 : Int32))])) tt from XS.goto X3.here hx rfl (pc0 := 154) (pc' := 158) rfl (hb hby at_154) (by decide) (by decide) zk
                exact zk
              · by_cases hc150 : c2 = d2
                · refine ⟨(1 : Int32), (by simp [same, ← hc111, hc117, ← hc124, hc130, ← hc137, hc143, ← hc150]), fun tt zk => ?_⟩
                  suffices zk : Steps p.tables e below (T3.setTop (mkF m 109 #[.val (.int x0), .val (.int x1), .val (.int x2), .val (.int x3), .val (.int n1), .val (.int n2), .val (.int c0), .val (.int c1), .val (.int c2), .val (.int d0), .val (.int d1), .val (.int d2), .val (.ref a1), .val (.ref a3), .unset, .unset, .unset, .unset] [(.int n1)])) tt from XS.iload X3.here hx rfl (hb hby at_107) rfl zk
                  suffices zk : Steps p.tables e below (T3.setTop (mkF m 111 #[.val (.int x0), .val (.int x1), .val (.int x2), .val (.int x3), .val (.int n1), .val (.int n2), .val (.int c0), .val (.int c1), .val (.int c2), .val (.int d0), .val (.int d1), .val (.int d2), .val (.ref a1), .val (.ref a3), .unset, .unset, .unset, .unset] [(.int n2), (.int n1)])) tt from XS.iload X3.here hx rfl (hb hby at_109) rfl zk
                  suffices zk : Steps p.tables e below (T3.setTop (mkF m 114 #[.val (.int x0), .val (.int x1), .val (.int x2), .val (.int x3), .val (.int n1), .val (.int n2), .val (.int c0), .val (.int c1), .val (.int c2), .val (.int d0), .val (.int d1), .val (.int d2), .val (.ref a1), .val (.ref a3), .unset, .unset, .unset, .unset] [])) tt from XS.icmpNo X3.here hx rfl (hb hby at_111) rfl (teq hc111).2 zk
                  suffices zk : Steps p.tables e below (T3.setTop (mkF m 116 #[.val (.int x0), .val (.int x1), .val (.int x2), .val (.int x3), .val (.int n1), .val (.int n2), .val (.int c0), .val (.int c1), .val (.int c2), .val (.int d0), .val (.int d1), .val (.int d2), .val (.ref a1), .val (.ref a3), .unset, .unset, .unset, .unset] [(.int n1)])) tt from XS.iload X3.here hx rfl (hb hby at_114) rfl zk
                  suffices zk : Steps p.tables e below (T3.setTop (mkF m 117 #[.val (.int x0), .val (.int x1), .val (.int x2), .val (.int x3), .val (.int n1), .val (.int n2), .val (.int c0), .val (.int c1), .val (.int c2), .val (.int d0), .val (.int d1), .val (.int d2), .val (.ref a1), .val (.ref a3), .unset, .unset, .unset, .unset] [(.int (1 : Int32)), (.int n1)])) tt from XS.iconst X3.here hx rfl (hb hby at_116) zk
                  suffices zk : Steps p.tables e below (T3.setTop (mkF m 120 #[.val (.int x0), .val (.int x1), .val (.int x2), .val (.int x3), .val (.int n1), .val (.int n2), .val (.int c0), .val (.int c1), .val (.int c2), .val (.int d0), .val (.int d1), .val (.int d2), .val (.ref a1), .val (.ref a3), .unset, .unset, .unset, .unset] [])) tt from XS.icmpNo X3.here hx rfl (hb hby at_117) rfl (flt hc117).1 zk
                  suffices zk : Steps p.tables e below (T3.setTop (mkF m 122 #[.val (.int x0), .val (.int x1), .val (.int x2), .val (.int x3), .val (.int n1), .val (.int n2), .val (.int c0), .val (.int c1), .val (.int c2), .val (.int d0), .val (.int d1), .val (.int d2), .val (.ref a1), .val (.ref a3), .unset, .unset, .unset, .unset] [(.int c0)])) tt from XS.iload X3.here hx rfl (hb hby at_120) rfl zk
                  suffices zk : Steps p.tables e below (T3.setTop (mkF m 124 #[.val (.int x0), .val (.int x1), .val (.int x2), .val (.int x3), .val (.int n1), .val (.int n2), .val (.int c0), .val (.int c1), .val (.int c2), .val (.int d0), .val (.int d1), .val (.int d2), .val (.ref a1), .val (.ref a3), .unset, .unset, .unset, .unset] [(.int d0), (.int c0)])) tt from XS.iload X3.here hx rfl (hb hby at_122) rfl zk
                  suffices zk : Steps p.tables e below (T3.setTop (mkF m 127 #[.val (.int x0), .val (.int x1), .val (.int x2), .val (.int x3), .val (.int n1), .val (.int n2), .val (.int c0), .val (.int c1), .val (.int c2), .val (.int d0), .val (.int d1), .val (.int d2), .val (.ref a1), .val (.ref a3), .unset, .unset, .unset, .unset] [])) tt from XS.icmpNo X3.here hx rfl (hb hby at_124) rfl (teq hc124).2 zk
                  suffices zk : Steps p.tables e below (T3.setTop (mkF m 129 #[.val (.int x0), .val (.int x1), .val (.int x2), .val (.int x3), .val (.int n1), .val (.int n2), .val (.int c0), .val (.int c1), .val (.int c2), .val (.int d0), .val (.int d1), .val (.int d2), .val (.ref a1), .val (.ref a3), .unset, .unset, .unset, .unset] [(.int n1)])) tt from XS.iload X3.here hx rfl (hb hby at_127) rfl zk
                  suffices zk : Steps p.tables e below (T3.setTop (mkF m 130 #[.val (.int x0), .val (.int x1), .val (.int x2), .val (.int x3), .val (.int n1), .val (.int n2), .val (.int c0), .val (.int c1), .val (.int c2), .val (.int d0), .val (.int d1), .val (.int d2), .val (.ref a1), .val (.ref a3), .unset, .unset, .unset, .unset] [(.int (2 : Int32)), (.int n1)])) tt from XS.iconst X3.here hx rfl (hb hby at_129) zk
                  suffices zk : Steps p.tables e below (T3.setTop (mkF m 133 #[.val (.int x0), .val (.int x1), .val (.int x2), .val (.int x3), .val (.int n1), .val (.int n2), .val (.int c0), .val (.int c1), .val (.int c2), .val (.int d0), .val (.int d1), .val (.int d2), .val (.ref a1), .val (.ref a3), .unset, .unset, .unset, .unset] [])) tt from XS.icmpNo X3.here hx rfl (hb hby at_130) rfl (flt hc130).1 zk
                  suffices zk : Steps p.tables e below (T3.setTop (mkF m 135 #[.val (.int x0), .val (.int x1), .val (.int x2), .val (.int x3), .val (.int n1), .val (.int n2), .val (.int c0), .val (.int c1), .val (.int c2), .val (.int d0), .val (.int d1), .val (.int d2), .val (.ref a1), .val (.ref a3), .unset, .unset, .unset, .unset] [(.int c1)])) tt from XS.iload X3.here hx rfl (hb hby at_133) rfl zk
                  suffices zk : Steps p.tables e below (T3.setTop (mkF m 137 #[.val (.int x0), .val (.int x1), .val (.int x2), .val (.int x3), .val (.int n1), .val (.int n2), .val (.int c0), .val (.int c1), .val (.int c2), .val (.int d0), .val (.int d1), .val (.int d2), .val (.ref a1), .val (.ref a3), .unset, .unset, .unset, .unset] [(.int d1), (.int c1)])) tt from XS.iload X3.here hx rfl (hb hby at_135) rfl zk
                  suffices zk : Steps p.tables e below (T3.setTop (mkF m 140 #[.val (.int x0), .val (.int x1), .val (.int x2), .val (.int x3), .val (.int n1), .val (.int n2), .val (.int c0), .val (.int c1), .val (.int c2), .val (.int d0), .val (.int d1), .val (.int d2), .val (.ref a1), .val (.ref a3), .unset, .unset, .unset, .unset] [])) tt from XS.icmpNo X3.here hx rfl (hb hby at_137) rfl (teq hc137).2 zk
                  suffices zk : Steps p.tables e below (T3.setTop (mkF m 142 #[.val (.int x0), .val (.int x1), .val (.int x2), .val (.int x3), .val (.int n1), .val (.int n2), .val (.int c0), .val (.int c1), .val (.int c2), .val (.int d0), .val (.int d1), .val (.int d2), .val (.ref a1), .val (.ref a3), .unset, .unset, .unset, .unset] [(.int n1)])) tt from XS.iload X3.here hx rfl (hb hby at_140) rfl zk
                  suffices zk : Steps p.tables e below (T3.setTop (mkF m 143 #[.val (.int x0), .val (.int x1), .val (.int x2), .val (.int x3), .val (.int n1), .val (.int n2), .val (.int c0), .val (.int c1), .val (.int c2), .val (.int d0), .val (.int d1), .val (.int d2), .val (.ref a1), .val (.ref a3), .unset, .unset, .unset, .unset] [(.int (3 : Int32)), (.int n1)])) tt from XS.iconst X3.here hx rfl (hb hby at_142) zk
                  suffices zk : Steps p.tables e below (T3.setTop (mkF m 146 #[.val (.int x0), .val (.int x1), .val (.int x2), .val (.int x3), .val (.int n1), .val (.int n2), .val (.int c0), .val (.int c1), .val (.int c2), .val (.int d0), .val (.int d1), .val (.int d2), .val (.ref a1), .val (.ref a3), .unset, .unset, .unset, .unset] [])) tt from XS.icmpNo X3.here hx rfl (hb hby at_143) rfl (flt hc143).1 zk
                  suffices zk : Steps p.tables e below (T3.setTop (mkF m 148 #[.val (.int x0), .val (.int x1), .val (.int x2), .val (.int x3), .val (.int n1), .val (.int n2), .val (.int c0), .val (.int c1), .val (.int c2), .val (.int d0), .val (.int d1), .val (.int d2), .val (.ref a1), .val (.ref a3), .unset, .unset, .unset, .unset] [(.int c2)])) tt from XS.iload X3.here hx rfl (hb hby at_146) rfl zk
                  suffices zk : Steps p.tables e below (T3.setTop (mkF m 150 #[.val (.int x0), .val (.int x1), .val (.int x2), .val (.int x3), .val (.int n1), .val (.int n2), .val (.int c0), .val (.int c1), .val (.int c2), .val (.int d0), .val (.int d1), .val (.int d2), .val (.ref a1), .val (.ref a3), .unset, .unset, .unset, .unset] [(.int d2), (.int c2)])) tt from XS.iload X3.here hx rfl (hb hby at_148) rfl zk
                  suffices zk : Steps p.tables e below (T3.setTop (mkF m 153 #[.val (.int x0), .val (.int x1), .val (.int x2), .val (.int x3), .val (.int n1), .val (.int n2), .val (.int c0), .val (.int c1), .val (.int c2), .val (.int d0), .val (.int d1), .val (.int d2), .val (.ref a1), .val (.ref a3), .unset, .unset, .unset, .unset] [])) tt from XS.icmpNo X3.here hx rfl (hb hby at_150) rfl (teq hc150).2 zk
                  suffices zk : Steps p.tables e below (T3.setTop (mkF m 154 #[.val (.int x0), .val (.int x1), .val (.int x2), .val (.int x3), .val (.int n1), .val (.int n2), .val (.int c0), .val (.int c1), .val (.int c2), .val (.int d0), .val (.int d1), .val (.int d2), .val (.ref a1), .val (.ref a3), .unset, .unset, .unset, .unset] [(.int (1 : Int32))])) tt from XS.iconst X3.here hx rfl (hb hby at_153) zk
                  suffices zk : Steps p.tables e below (T3.setTop (mkF m 158 #[.val (.int x0), .val (.int x1), .val (.int x2), .val (.int x3), .val (.int n1), .val (.int n2), .val (.int c0), .val (.int c1), .val (.int c2), .val (.int d0), .val (.int d1), .val (.int d2), .val (.ref a1), .val (.ref a3), .unset, .unset, .unset, .unset] [(.int (1 : Int32))])) tt from XS.goto X3.here hx rfl (pc0 := 154) (pc' := 158) rfl (hb hby at_154) (by decide) (by decide) zk
                  exact zk
                · refine ⟨(0 : Int32), (by simp [same, ← hc111, hc117, ← hc124, hc130, ← hc137, hc143, hc150]), fun tt zk => ?_⟩
                  suffices zk : Steps p.tables e below (T3.setTop (mkF m 109 #[.val (.int x0), .val (.int x1), .val (.int x2), .val (.int x3), .val (.int n1), .val (.int n2), .val (.int c0), .val (.int c1), .val (.int c2), .val (.int d0), .val (.int d1), .val (.int d2), .val (.ref a1), .val (.ref a3), .unset, .unset, .unset, .unset] [(.int n1)])) tt from XS.iload X3.here hx rfl (hb hby at_107) rfl zk
                  suffices zk : Steps p.tables e below (T3.setTop (mkF m 111 #[.val (.int x0), .val (.int x1), .val (.int x2), .val (.int x3), .val (.int n1), .val (.int n2), .val (.int c0), .val (.int c1), .val (.int c2), .val (.int d0), .val (.int d1), .val (.int d2), .val (.ref a1), .val (.ref a3), .unset, .unset, .unset, .unset] [(.int n2), (.int n1)])) tt from XS.iload X3.here hx rfl (hb hby at_109) rfl zk
                  suffices zk : Steps p.tables e below (T3.setTop (mkF m 114 #[.val (.int x0), .val (.int x1), .val (.int x2), .val (.int x3), .val (.int n1), .val (.int n2), .val (.int c0), .val (.int c1), .val (.int c2), .val (.int d0), .val (.int d1), .val (.int d2), .val (.ref a1), .val (.ref a3), .unset, .unset, .unset, .unset] [])) tt from XS.icmpNo X3.here hx rfl (hb hby at_111) rfl (teq hc111).2 zk
                  suffices zk : Steps p.tables e below (T3.setTop (mkF m 116 #[.val (.int x0), .val (.int x1), .val (.int x2), .val (.int x3), .val (.int n1), .val (.int n2), .val (.int c0), .val (.int c1), .val (.int c2), .val (.int d0), .val (.int d1), .val (.int d2), .val (.ref a1), .val (.ref a3), .unset, .unset, .unset, .unset] [(.int n1)])) tt from XS.iload X3.here hx rfl (hb hby at_114) rfl zk
                  suffices zk : Steps p.tables e below (T3.setTop (mkF m 117 #[.val (.int x0), .val (.int x1), .val (.int x2), .val (.int x3), .val (.int n1), .val (.int n2), .val (.int c0), .val (.int c1), .val (.int c2), .val (.int d0), .val (.int d1), .val (.int d2), .val (.ref a1), .val (.ref a3), .unset, .unset, .unset, .unset] [(.int (1 : Int32)), (.int n1)])) tt from XS.iconst X3.here hx rfl (hb hby at_116) zk
                  suffices zk : Steps p.tables e below (T3.setTop (mkF m 120 #[.val (.int x0), .val (.int x1), .val (.int x2), .val (.int x3), .val (.int n1), .val (.int n2), .val (.int c0), .val (.int c1), .val (.int c2), .val (.int d0), .val (.int d1), .val (.int d2), .val (.ref a1), .val (.ref a3), .unset, .unset, .unset, .unset] [])) tt from XS.icmpNo X3.here hx rfl (hb hby at_117) rfl (flt hc117).1 zk
                  suffices zk : Steps p.tables e below (T3.setTop (mkF m 122 #[.val (.int x0), .val (.int x1), .val (.int x2), .val (.int x3), .val (.int n1), .val (.int n2), .val (.int c0), .val (.int c1), .val (.int c2), .val (.int d0), .val (.int d1), .val (.int d2), .val (.ref a1), .val (.ref a3), .unset, .unset, .unset, .unset] [(.int c0)])) tt from XS.iload X3.here hx rfl (hb hby at_120) rfl zk
                  suffices zk : Steps p.tables e below (T3.setTop (mkF m 124 #[.val (.int x0), .val (.int x1), .val (.int x2), .val (.int x3), .val (.int n1), .val (.int n2), .val (.int c0), .val (.int c1), .val (.int c2), .val (.int d0), .val (.int d1), .val (.int d2), .val (.ref a1), .val (.ref a3), .unset, .unset, .unset, .unset] [(.int d0), (.int c0)])) tt from XS.iload X3.here hx rfl (hb hby at_122) rfl zk
                  suffices zk : Steps p.tables e below (T3.setTop (mkF m 127 #[.val (.int x0), .val (.int x1), .val (.int x2), .val (.int x3), .val (.int n1), .val (.int n2), .val (.int c0), .val (.int c1), .val (.int c2), .val (.int d0), .val (.int d1), .val (.int d2), .val (.ref a1), .val (.ref a3), .unset, .unset, .unset, .unset] [])) tt from XS.icmpNo X3.here hx rfl (hb hby at_124) rfl (teq hc124).2 zk
                  suffices zk : Steps p.tables e below (T3.setTop (mkF m 129 #[.val (.int x0), .val (.int x1), .val (.int x2), .val (.int x3), .val (.int n1), .val (.int n2), .val (.int c0), .val (.int c1), .val (.int c2), .val (.int d0), .val (.int d1), .val (.int d2), .val (.ref a1), .val (.ref a3), .unset, .unset, .unset, .unset] [(.int n1)])) tt from XS.iload X3.here hx rfl (hb hby at_127) rfl zk
                  suffices zk : Steps p.tables e below (T3.setTop (mkF m 130 #[.val (.int x0), .val (.int x1), .val (.int x2), .val (.int x3), .val (.int n1), .val (.int n2), .val (.int c0), .val (.int c1), .val (.int c2), .val (.int d0), .val (.int d1), .val (.int d2), .val (.ref a1), .val (.ref a3), .unset, .unset, .unset, .unset] [(.int (2 : Int32)), (.int n1)])) tt from XS.iconst X3.here hx rfl (hb hby at_129) zk
                  suffices zk : Steps p.tables e below (T3.setTop (mkF m 133 #[.val (.int x0), .val (.int x1), .val (.int x2), .val (.int x3), .val (.int n1), .val (.int n2), .val (.int c0), .val (.int c1), .val (.int c2), .val (.int d0), .val (.int d1), .val (.int d2), .val (.ref a1), .val (.ref a3), .unset, .unset, .unset, .unset] [])) tt from XS.icmpNo X3.here hx rfl (hb hby at_130) rfl (flt hc130).1 zk
                  suffices zk : Steps p.tables e below (T3.setTop (mkF m 135 #[.val (.int x0), .val (.int x1), .val (.int x2), .val (.int x3), .val (.int n1), .val (.int n2), .val (.int c0), .val (.int c1), .val (.int c2), .val (.int d0), .val (.int d1), .val (.int d2), .val (.ref a1), .val (.ref a3), .unset, .unset, .unset, .unset] [(.int c1)])) tt from XS.iload X3.here hx rfl (hb hby at_133) rfl zk
                  suffices zk : Steps p.tables e below (T3.setTop (mkF m 137 #[.val (.int x0), .val (.int x1), .val (.int x2), .val (.int x3), .val (.int n1), .val (.int n2), .val (.int c0), .val (.int c1), .val (.int c2), .val (.int d0), .val (.int d1), .val (.int d2), .val (.ref a1), .val (.ref a3), .unset, .unset, .unset, .unset] [(.int d1), (.int c1)])) tt from XS.iload X3.here hx rfl (hb hby at_135) rfl zk
                  suffices zk : Steps p.tables e below (T3.setTop (mkF m 140 #[.val (.int x0), .val (.int x1), .val (.int x2), .val (.int x3), .val (.int n1), .val (.int n2), .val (.int c0), .val (.int c1), .val (.int c2), .val (.int d0), .val (.int d1), .val (.int d2), .val (.ref a1), .val (.ref a3), .unset, .unset, .unset, .unset] [])) tt from XS.icmpNo X3.here hx rfl (hb hby at_137) rfl (teq hc137).2 zk
                  suffices zk : Steps p.tables e below (T3.setTop (mkF m 142 #[.val (.int x0), .val (.int x1), .val (.int x2), .val (.int x3), .val (.int n1), .val (.int n2), .val (.int c0), .val (.int c1), .val (.int c2), .val (.int d0), .val (.int d1), .val (.int d2), .val (.ref a1), .val (.ref a3), .unset, .unset, .unset, .unset] [(.int n1)])) tt from XS.iload X3.here hx rfl (hb hby at_140) rfl zk
                  suffices zk : Steps p.tables e below (T3.setTop (mkF m 143 #[.val (.int x0), .val (.int x1), .val (.int x2), .val (.int x3), .val (.int n1), .val (.int n2), .val (.int c0), .val (.int c1), .val (.int c2), .val (.int d0), .val (.int d1), .val (.int d2), .val (.ref a1), .val (.ref a3), .unset, .unset, .unset, .unset] [(.int (3 : Int32)), (.int n1)])) tt from XS.iconst X3.here hx rfl (hb hby at_142) zk
                  suffices zk : Steps p.tables e below (T3.setTop (mkF m 146 #[.val (.int x0), .val (.int x1), .val (.int x2), .val (.int x3), .val (.int n1), .val (.int n2), .val (.int c0), .val (.int c1), .val (.int c2), .val (.int d0), .val (.int d1), .val (.int d2), .val (.ref a1), .val (.ref a3), .unset, .unset, .unset, .unset] [])) tt from XS.icmpNo X3.here hx rfl (hb hby at_143) rfl (flt hc143).1 zk
                  suffices zk : Steps p.tables e below (T3.setTop (mkF m 148 #[.val (.int x0), .val (.int x1), .val (.int x2), .val (.int x3), .val (.int n1), .val (.int n2), .val (.int c0), .val (.int c1), .val (.int c2), .val (.int d0), .val (.int d1), .val (.int d2), .val (.ref a1), .val (.ref a3), .unset, .unset, .unset, .unset] [(.int c2)])) tt from XS.iload X3.here hx rfl (hb hby at_146) rfl zk
                  suffices zk : Steps p.tables e below (T3.setTop (mkF m 150 #[.val (.int x0), .val (.int x1), .val (.int x2), .val (.int x3), .val (.int n1), .val (.int n2), .val (.int c0), .val (.int c1), .val (.int c2), .val (.int d0), .val (.int d1), .val (.int d2), .val (.ref a1), .val (.ref a3), .unset, .unset, .unset, .unset] [(.int d2), (.int c2)])) tt from XS.iload X3.here hx rfl (hb hby at_148) rfl zk
                  suffices zk : Steps p.tables e below (T3.setTop (mkF m 157 #[.val (.int x0), .val (.int x1), .val (.int x2), .val (.int x3), .val (.int n1), .val (.int n2), .val (.int c0), .val (.int c1), .val (.int c2), .val (.int d0), .val (.int d1), .val (.int d2), .val (.ref a1), .val (.ref a3), .unset, .unset, .unset, .unset] [])) tt from XS.icmpYes X3.here hx rfl (pc0 := 150) (pc' := 157) rfl (hb hby at_150) rfl (feq hc150).2 (by decide) (by decide) zk
                  suffices zk : Steps p.tables e below (T3.setTop (mkF m 158 #[.val (.int x0), .val (.int x1), .val (.int x2), .val (.int x3), .val (.int n1), .val (.int n2), .val (.int c0), .val (.int c1), .val (.int c2), .val (.int d0), .val (.int d1), .val (.int d2), .val (.ref a1), .val (.ref a3), .unset, .unset, .unset, .unset] [(.int (0 : Int32))])) tt from XS.iconst X3.here hx rfl (hb hby at_157) zk
                  exact zk
            · refine ⟨(0 : Int32), (by simp [same, ← hc111, hc117, ← hc124, hc130, hc137]), fun tt zk => ?_⟩
              suffices zk : Steps p.tables e below (T3.setTop (mkF m 109 #[.val (.int x0), .val (.int x1), .val (.int x2), .val (.int x3), .val (.int n1), .val (.int n2), .val (.int c0), .val (.int c1), .val (.int c2), .val (.int d0), .val (.int d1), .val (.int d2), .val (.ref a1), .val (.ref a3), .unset, .unset, .unset, .unset] [(.int n1)])) tt from XS.iload X3.here hx rfl (hb hby at_107) rfl zk
              suffices zk : Steps p.tables e below (T3.setTop (mkF m 111 #[.val (.int x0), .val (.int x1), .val (.int x2), .val (.int x3), .val (.int n1), .val (.int n2), .val (.int c0), .val (.int c1), .val (.int c2), .val (.int d0), .val (.int d1), .val (.int d2), .val (.ref a1), .val (.ref a3), .unset, .unset, .unset, .unset] [(.int n2), (.int n1)])) tt from XS.iload X3.here hx rfl (hb hby at_109) rfl zk
              suffices zk : Steps p.tables e below (T3.setTop (mkF m 114 #[.val (.int x0), .val (.int x1), .val (.int x2), .val (.int x3), .val (.int n1), .val (.int n2), .val (.int c0), .val (.int c1), .val (.int c2), .val (.int d0), .val (.int d1), .val (.int d2), .val (.ref a1), .val (.ref a3), .unset, .unset, .unset, .unset] [])) tt from XS.icmpNo X3.here hx rfl (hb hby at_111) rfl (teq hc111).2 zk
              suffices zk : Steps p.tables e below (T3.setTop (mkF m 116 #[.val (.int x0), .val (.int x1), .val (.int x2), .val (.int x3), .val (.int n1), .val (.int n2), .val (.int c0), .val (.int c1), .val (.int c2), .val (.int d0), .val (.int d1), .val (.int d2), .val (.ref a1), .val (.ref a3), .unset, .unset, .unset, .unset] [(.int n1)])) tt from XS.iload X3.here hx rfl (hb hby at_114) rfl zk
              suffices zk : Steps p.tables e below (T3.setTop (mkF m 117 #[.val (.int x0), .val (.int x1), .val (.int x2), .val (.int x3), .val (.int n1), .val (.int n2), .val (.int c0), .val (.int c1), .val (.int c2), .val (.int d0), .val (.int d1), .val (.int d2), .val (.ref a1), .val (.ref a3), .unset, .unset, .unset, .unset] [(.int (1 : Int32)), (.int n1)])) tt from XS.iconst X3.here hx rfl (hb hby at_116) zk
              suffices zk : Steps p.tables e below (T3.setTop (mkF m 120 #[.val (.int x0), .val (.int x1), .val (.int x2), .val (.int x3), .val (.int n1), .val (.int n2), .val (.int c0), .val (.int c1), .val (.int c2), .val (.int d0), .val (.int d1), .val (.int d2), .val (.ref a1), .val (.ref a3), .unset, .unset, .unset, .unset] [])) tt from XS.icmpNo X3.here hx rfl (hb hby at_117) rfl (flt hc117).1 zk
              suffices zk : Steps p.tables e below (T3.setTop (mkF m 122 #[.val (.int x0), .val (.int x1), .val (.int x2), .val (.int x3), .val (.int n1), .val (.int n2), .val (.int c0), .val (.int c1), .val (.int c2), .val (.int d0), .val (.int d1), .val (.int d2), .val (.ref a1), .val (.ref a3), .unset, .unset, .unset, .unset] [(.int c0)])) tt from XS.iload X3.here hx rfl (hb hby at_120) rfl zk
              suffices zk : Steps p.tables e below (T3.setTop (mkF m 124 #[.val (.int x0), .val (.int x1), .val (.int x2), .val (.int x3), .val (.int n1), .val (.int n2), .val (.int c0), .val (.int c1), .val (.int c2), .val (.int d0), .val (.int d1), .val (.int d2), .val (.ref a1), .val (.ref a3), .unset, .unset, .unset, .unset] [(.int d0), (.int c0)])) tt from XS.iload X3.here hx rfl (hb hby at_122) rfl zk
              suffices zk : Steps p.tables e below (T3.setTop (mkF m 127 #[.val (.int x0), .val (.int x1), .val (.int x2), .val (.int x3), .val (.int n1), .val (.int n2), .val (.int c0), .val (.int c1), .val (.int c2), .val (.int d0), .val (.int d1), .val (.int d2), .val (.ref a1), .val (.ref a3), .unset, .unset, .unset, .unset] [])) tt from XS.icmpNo X3.here hx rfl (hb hby at_124) rfl (teq hc124).2 zk
              suffices zk : Steps p.tables e below (T3.setTop (mkF m 129 #[.val (.int x0), .val (.int x1), .val (.int x2), .val (.int x3), .val (.int n1), .val (.int n2), .val (.int c0), .val (.int c1), .val (.int c2), .val (.int d0), .val (.int d1), .val (.int d2), .val (.ref a1), .val (.ref a3), .unset, .unset, .unset, .unset] [(.int n1)])) tt from XS.iload X3.here hx rfl (hb hby at_127) rfl zk
              suffices zk : Steps p.tables e below (T3.setTop (mkF m 130 #[.val (.int x0), .val (.int x1), .val (.int x2), .val (.int x3), .val (.int n1), .val (.int n2), .val (.int c0), .val (.int c1), .val (.int c2), .val (.int d0), .val (.int d1), .val (.int d2), .val (.ref a1), .val (.ref a3), .unset, .unset, .unset, .unset] [(.int (2 : Int32)), (.int n1)])) tt from XS.iconst X3.here hx rfl (hb hby at_129) zk
              suffices zk : Steps p.tables e below (T3.setTop (mkF m 133 #[.val (.int x0), .val (.int x1), .val (.int x2), .val (.int x3), .val (.int n1), .val (.int n2), .val (.int c0), .val (.int c1), .val (.int c2), .val (.int d0), .val (.int d1), .val (.int d2), .val (.ref a1), .val (.ref a3), .unset, .unset, .unset, .unset] [])) tt from XS.icmpNo X3.here hx rfl (hb hby at_130) rfl (flt hc130).1 zk
              suffices zk : Steps p.tables e below (T3.setTop (mkF m 135 #[.val (.int x0), .val (.int x1), .val (.int x2), .val (.int x3), .val (.int n1), .val (.int n2), .val (.int c0), .val (.int c1), .val (.int c2), .val (.int d0), .val (.int d1), .val (.int d2), .val (.ref a1), .val (.ref a3), .unset, .unset, .unset, .unset] [(.int c1)])) tt from XS.iload X3.here hx rfl (hb hby at_133) rfl zk
              suffices zk : Steps p.tables e below (T3.setTop (mkF m 137 #[.val (.int x0), .val (.int x1), .val (.int x2), .val (.int x3), .val (.int n1), .val (.int n2), .val (.int c0), .val (.int c1), .val (.int c2), .val (.int d0), .val (.int d1), .val (.int d2), .val (.ref a1), .val (.ref a3), .unset, .unset, .unset, .unset] [(.int d1), (.int c1)])) tt from XS.iload X3.here hx rfl (hb hby at_135) rfl zk
              suffices zk : Steps p.tables e below (T3.setTop (mkF m 157 #[.val (.int x0), .val (.int x1), .val (.int x2), .val (.int x3), .val (.int n1), .val (.int n2), .val (.int c0), .val (.int c1), .val (.int c2), .val (.int d0), .val (.int d1), .val (.int d2), .val (.ref a1), .val (.ref a3), .unset, .unset, .unset, .unset] [])) tt from XS.icmpYes X3.here hx rfl (pc0 := 137) (pc' := 157) rfl (hb hby at_137) rfl (feq hc137).2 (by decide) (by decide) zk
              suffices zk : Steps p.tables e below (T3.setTop (mkF m 158 #[.val (.int x0), .val (.int x1), .val (.int x2), .val (.int x3), .val (.int n1), .val (.int n2), .val (.int c0), .val (.int c1), .val (.int c2), .val (.int d0), .val (.int d1), .val (.int d2), .val (.ref a1), .val (.ref a3), .unset, .unset, .unset, .unset] [(.int (0 : Int32))])) tt from XS.iconst X3.here hx rfl (hb hby at_157) zk
              exact zk
        · refine ⟨(0 : Int32), (by simp [same, ← hc111, hc117, hc124]), fun tt zk => ?_⟩
          suffices zk : Steps p.tables e below (T3.setTop (mkF m 109 #[.val (.int x0), .val (.int x1), .val (.int x2), .val (.int x3), .val (.int n1), .val (.int n2), .val (.int c0), .val (.int c1), .val (.int c2), .val (.int d0), .val (.int d1), .val (.int d2), .val (.ref a1), .val (.ref a3), .unset, .unset, .unset, .unset] [(.int n1)])) tt from XS.iload X3.here hx rfl (hb hby at_107) rfl zk
          suffices zk : Steps p.tables e below (T3.setTop (mkF m 111 #[.val (.int x0), .val (.int x1), .val (.int x2), .val (.int x3), .val (.int n1), .val (.int n2), .val (.int c0), .val (.int c1), .val (.int c2), .val (.int d0), .val (.int d1), .val (.int d2), .val (.ref a1), .val (.ref a3), .unset, .unset, .unset, .unset] [(.int n2), (.int n1)])) tt from XS.iload X3.here hx rfl (hb hby at_109) rfl zk
          suffices zk : Steps p.tables e below (T3.setTop (mkF m 114 #[.val (.int x0), .val (.int x1), .val (.int x2), .val (.int x3), .val (.int n1), .val (.int n2), .val (.int c0), .val (.int c1), .val (.int c2), .val (.int d0), .val (.int d1), .val (.int d2), .val (.ref a1), .val (.ref a3), .unset, .unset, .unset, .unset] [])) tt from XS.icmpNo X3.here hx rfl (hb hby at_111) rfl (teq hc111).2 zk
          suffices zk : Steps p.tables e below (T3.setTop (mkF m 116 #[.val (.int x0), .val (.int x1), .val (.int x2), .val (.int x3), .val (.int n1), .val (.int n2), .val (.int c0), .val (.int c1), .val (.int c2), .val (.int d0), .val (.int d1), .val (.int d2), .val (.ref a1), .val (.ref a3), .unset, .unset, .unset, .unset] [(.int n1)])) tt from XS.iload X3.here hx rfl (hb hby at_114) rfl zk
          suffices zk : Steps p.tables e below (T3.setTop (mkF m 117 #[.val (.int x0), .val (.int x1), .val (.int x2), .val (.int x3), .val (.int n1), .val (.int n2), .val (.int c0), .val (.int c1), .val (.int c2), .val (.int d0), .val (.int d1), .val (.int d2), .val (.ref a1), .val (.ref a3), .unset, .unset, .unset, .unset] [(.int (1 : Int32)), (.int n1)])) tt from XS.iconst X3.here hx rfl (hb hby at_116) zk
          suffices zk : Steps p.tables e below (T3.setTop (mkF m 120 #[.val (.int x0), .val (.int x1), .val (.int x2), .val (.int x3), .val (.int n1), .val (.int n2), .val (.int c0), .val (.int c1), .val (.int c2), .val (.int d0), .val (.int d1), .val (.int d2), .val (.ref a1), .val (.ref a3), .unset, .unset, .unset, .unset] [])) tt from XS.icmpNo X3.here hx rfl (hb hby at_117) rfl (flt hc117).1 zk
          suffices zk : Steps p.tables e below (T3.setTop (mkF m 122 #[.val (.int x0), .val (.int x1), .val (.int x2), .val (.int x3), .val (.int n1), .val (.int n2), .val (.int c0), .val (.int c1), .val (.int c2), .val (.int d0), .val (.int d1), .val (.int d2), .val (.ref a1), .val (.ref a3), .unset, .unset, .unset, .unset] [(.int c0)])) tt from XS.iload X3.here hx rfl (hb hby at_120) rfl zk
          suffices zk : Steps p.tables e below (T3.setTop (mkF m 124 #[.val (.int x0), .val (.int x1), .val (.int x2), .val (.int x3), .val (.int n1), .val (.int n2), .val (.int c0), .val (.int c1), .val (.int c2), .val (.int d0), .val (.int d1), .val (.int d2), .val (.ref a1), .val (.ref a3), .unset, .unset, .unset, .unset] [(.int d0), (.int c0)])) tt from XS.iload X3.here hx rfl (hb hby at_122) rfl zk
          suffices zk : Steps p.tables e below (T3.setTop (mkF m 157 #[.val (.int x0), .val (.int x1), .val (.int x2), .val (.int x3), .val (.int n1), .val (.int n2), .val (.int c0), .val (.int c1), .val (.int c2), .val (.int d0), .val (.int d1), .val (.int d2), .val (.ref a1), .val (.ref a3), .unset, .unset, .unset, .unset] [])) tt from XS.icmpYes X3.here hx rfl (pc0 := 124) (pc' := 157) rfl (hb hby at_124) rfl (feq hc124).2 (by decide) (by decide) zk
          suffices zk : Steps p.tables e below (T3.setTop (mkF m 158 #[.val (.int x0), .val (.int x1), .val (.int x2), .val (.int x3), .val (.int n1), .val (.int n2), .val (.int c0), .val (.int c1), .val (.int c2), .val (.int d0), .val (.int d1), .val (.int d2), .val (.ref a1), .val (.ref a3), .unset, .unset, .unset, .unset] [(.int (0 : Int32))])) tt from XS.iconst X3.here hx rfl (hb hby at_157) zk
          exact zk
    · refine ⟨(0 : Int32), (by simp [same, hc111]), fun tt zk => ?_⟩
      suffices zk : Steps p.tables e below (T3.setTop (mkF m 109 #[.val (.int x0), .val (.int x1), .val (.int x2), .val (.int x3), .val (.int n1), .val (.int n2), .val (.int c0), .val (.int c1), .val (.int c2), .val (.int d0), .val (.int d1), .val (.int d2), .val (.ref a1), .val (.ref a3), .unset, .unset, .unset, .unset] [(.int n1)])) tt from XS.iload X3.here hx rfl (hb hby at_107) rfl zk
      suffices zk : Steps p.tables e below (T3.setTop (mkF m 111 #[.val (.int x0), .val (.int x1), .val (.int x2), .val (.int x3), .val (.int n1), .val (.int n2), .val (.int c0), .val (.int c1), .val (.int c2), .val (.int d0), .val (.int d1), .val (.int d2), .val (.ref a1), .val (.ref a3), .unset, .unset, .unset, .unset] [(.int n2), (.int n1)])) tt from XS.iload X3.here hx rfl (hb hby at_109) rfl zk
      suffices zk : Steps p.tables e below (T3.setTop (mkF m 157 #[.val (.int x0), .val (.int x1), .val (.int x2), .val (.int x3), .val (.int n1), .val (.int n2), .val (.int c0), .val (.int c1), .val (.int c2), .val (.int d0), .val (.int d1), .val (.int d2), .val (.ref a1), .val (.ref a3), .unset, .unset, .unset, .unset] [])) tt from XS.icmpYes X3.here hx rfl (pc0 := 111) (pc' := 157) rfl (hb hby at_111) rfl (feq hc111).2 (by decide) (by decide) zk
      suffices zk : Steps p.tables e below (T3.setTop (mkF m 158 #[.val (.int x0), .val (.int x1), .val (.int x2), .val (.int x3), .val (.int n1), .val (.int n2), .val (.int c0), .val (.int c1), .val (.int c2), .val (.int d0), .val (.int d1), .val (.int d2), .val (.ref a1), .val (.ref a3), .unset, .unset, .unset, .unset] [(.int (0 : Int32))])) tt from XS.iconst X3.here hx rfl (hb hby at_157) zk
      exact zk
  refine Go.st dj7 ?_
  refine Go.st (T' := T3) (g' := (mkF m 160 #[.val (.int x0), .val (.int x1), .val (.int x2), .val (.int x3), .val (.int n1), .val (.int n2), .val (.int c0), .val (.int c1), .val (.int c2), .val (.int d0), .val (.int d1), .val (.int d2), .val (.ref a1), .val (.ref a3), .val (.int j7), .unset, .unset, .unset] [])) (fun _ zk => XS.istore X3.here hx rfl (hb hby at_158) rfl (l' := #[.val (.int x0), .val (.int x1), .val (.int x2), .val (.int x3), .val (.int n1), .val (.int n2), .val (.int c0), .val (.int c1), .val (.int c2), .val (.int d0), .val (.int d1), .val (.int d2), .val (.ref a1), .val (.ref a3), .val (.int j7), .unset, .unset, .unset]) rfl zk) ?_
  obtain ⟨T8, h8, X8, e8, E8, A8, D8, -, st8⟩ := newO X3 hx hZ hown (w26 hw) (w27 hw) (w28 hw) e3 (g := (mkF m 160 #[.val (.int x0), .val (.int x1), .val (.int x2), .val (.int x3), .val (.int n1), .val (.int n2), .val (.int c0), .val (.int c1), .val (.int c2), .val (.int d0), .val (.int d1), .val (.int d2), .val (.ref a1), .val (.ref a3), .val (.int j7), .unset, .unset, .unset] [])) rfl (hb hby at_160) (by decide) (by decide)
  obtain ⟨b8, g8⟩ : ∃ z, z = h3.size := ⟨_, rfl⟩
  rw [← g8] at A8 D8 st8
  have F8_name : Fld Z h8 b8 "com/example/patience/patience/language/Variable" "name" "Ljava/lang/String;" .null := D8 (Or.inr (w40 hw)) (ty := (.object "java/lang/String")) (by decide)
  refine Go.st (T' := T8) (g' := (mkF m 163 #[.val (.int x0), .val (.int x1), .val (.int x2), .val (.int x3), .val (.int n1), .val (.int n2), .val (.int c0), .val (.int c1), .val (.int c2), .val (.int d0), .val (.int d1), .val (.int d2), .val (.ref a1), .val (.ref a3), .val (.int j7), .unset, .unset, .unset] [(.ref b8)])) (fun _ zk => st8 _ zk) ?_
  refine Go.st (T' := T8) (g' := (mkF m 164 #[.val (.int x0), .val (.int x1), .val (.int x2), .val (.int x3), .val (.int n1), .val (.int n2), .val (.int c0), .val (.int c1), .val (.int c2), .val (.int d0), .val (.int d1), .val (.int d2), .val (.ref a1), .val (.ref a3), .val (.int j7), .unset, .unset, .unset] [(.ref b8), (.ref b8)])) (fun _ zk => XS.dup X8.here hx rfl (hb hby at_163) rfl rfl zk) ?_
  refine Go.st (T' := T8) (g' := (mkF m 166 #[.val (.int x0), .val (.int x1), .val (.int x2), .val (.int x3), .val (.int n1), .val (.int n2), .val (.int c0), .val (.int c1), .val (.int c2), .val (.int d0), .val (.int d1), .val (.int d2), .val (.ref a1), .val (.ref a3), .val (.int j7), .unset, .unset, .unset] [(.ref a1), (.ref b8), (.ref b8)])) (fun _ zk => XS.aload X8.here hx rfl (hb hby at_164) rfl rfl zk) ?_
  have x9 : Ext h1 h8 := (E3.tr E8)
  have f10 := S1.exa.ext x9
  have cr12 := (chrE ca6 E8)
  refine Go.callSpS (y := (⟨"com/example/patience/patience/language/Variable", "<init>", "(Ljava/lang/String;)V"⟩ : MethodName)) (a := b8) X8 hx hZ hown e8 hEL cr12.1 hS (Nat.le_trans (Nat.le_refl _) E8.1) rfl (w29 hw) (w30 hw) (w28 hw) (w31 hw) (by decide) (argsL := [(.ref a1)]) (rest := [(.ref b8)]) (W := 1) (rm_vrInit l Z a0 hw [] b8 a1 h8 n0 (Nat.le_trans Z0 (Nat.le_trans (Nat.le_trans E1.1 E3.1) E8.1)) A8 (Nat.le_trans Z0 (Nat.le_trans (Nat.le_trans E1.1 E3.1) (Nat.le_of_eq g8.symm))) F8_name f10) all0 rfl (lenOf pd18 rfl) rfl (by rw [hml]; rfl) rfl (by show 2 * 0 + _ ≤ _; exact Nat.le_of_eq rfl) (by decide) (by decide) (by decide) (by decide) (hb hby at_166) ?_
  intro v11 T11 h11 L11 X11 e11 q11 hS hZ hown cr11
  obtain ⟨hv11, Nf11, K11, G11_0⟩ := q11
  subst hv11
  have N11 := Fr.app N3 Nf11
  have ca13 := cr12.trans cr11
  show Go p.tables e below _ T11 (mkF m 169 #[.val (.int x0), .val (.int x1), .val (.int x2), .val (.int x3), .val (.int n1), .val (.int n2), .val (.int c0), .val (.int c1), .val (.int c2), .val (.int d0), .val (.int d1), .val (.int d2), .val (.ref a1), .val (.ref a3), .val (.int j7), .unset, .unset, .unset] [(.ref b8)])
  refine Go.st (T' := T11) (g' := (mkF m 171 #[.val (.int x0), .val (.int x1), .val (.int x2), .val (.int x3), .val (.int n1), .val (.int n2), .val (.int c0), .val (.int c1), .val (.int c2), .val (.int d0), .val (.int d1), .val (.int d2), .val (.ref a1), .val (.ref a3), .val (.int j7), .val (.ref b8), .unset, .unset] [])) (fun _ zk => XS.astore X11.here hx rfl (hb hby at_169) rfl rfl (l' := #[.val (.int x0), .val (.int x1), .val (.int x2), .val (.int x3), .val (.int n1), .val (.int n2), .val (.int c0), .val (.int c1), .val (.int c2), .val (.int d0), .val (.int d1), .val (.int d2), .val (.ref a1), .val (.ref a3), .val (.int j7), .val (.ref b8), .unset, .unset]) rfl zk) ?_
  refine Go.st (T' := T11) (g' := (mkF m 172 #[.val (.int x0), .val (.int x1), .val (.int x2), .val (.int x3), .val (.int n1), .val (.int n2), .val (.int c0), .val (.int c1), .val (.int c2), .val (.int d0), .val (.int d1), .val (.int d2), .val (.ref a1), .val (.ref a3), .val (.int j7), .val (.ref b8), .unset, .unset] [(.int x3)])) (fun _ zk => XS.iloadN X11.here hx rfl (hb hby at_171) rfl zk) ?_
  refine Go.st (T' := T11) (g' := (mkF m 173 #[.val (.int x0), .val (.int x1), .val (.int x2), .val (.int x3), .val (.int n1), .val (.int n2), .val (.int c0), .val (.int c1), .val (.int c2), .val (.int d0), .val (.int d1), .val (.int d2), .val (.ref a1), .val (.ref a3), .val (.int j7), .val (.ref b8), .unset, .unset] [(.int (3 : Int32)), (.int x3)])) (fun _ zk => XS.iconst X11.here hx rfl (hb hby at_172) zk) ?_
  refine Go.st (T' := T11) (g' := (mkF m 174 #[.val (.int x0), .val (.int x1), .val (.int x2), .val (.int x3), .val (.int n1), .val (.int n2), .val (.int c0), .val (.int c1), .val (.int c2), .val (.int d0), .val (.int d1), .val (.int d2), .val (.ref a1), .val (.ref a3), .val (.int j7), .val (.ref b8), .unset, .unset] [(.int (x3 &&& (3 : Int32)))])) (fun _ zk => XS.iand X11.here hx rfl (hb hby at_173) rfl zk) ?_
  refine Go.st (T' := T11) (g' := (mkF m 176 #[.val (.int x0), .val (.int x1), .val (.int x2), .val (.int x3), .val (.int n1), .val (.int n2), .val (.int c0), .val (.int c1), .val (.int c2), .val (.int d0), .val (.int d1), .val (.int d2), .val (.ref a1), .val (.ref a3), .val (.int j7), .val (.ref b8), .val (.int (x3 &&& (3 : Int32))), .unset] [])) (fun _ zk => XS.istore X11.here hx rfl (hb hby at_174) rfl (l' := #[.val (.int x0), .val (.int x1), .val (.int x2), .val (.int x3), .val (.int n1), .val (.int n2), .val (.int c0), .val (.int c1), .val (.int c2), .val (.int d0), .val (.int d1), .val (.int d2), .val (.ref a1), .val (.ref a3), .val (.int j7), .val (.ref b8), .val (.int (x3 &&& (3 : Int32))), .unset]) rfl zk) ?_
  refine Go.st (T' := T11) (g' := (mkF m 178 #[.val (.int x0), .val (.int x1), .val (.int x2), .val (.int x3), .val (.int n1), .val (.int n2), .val (.int c0), .val (.int c1), .val (.int c2), .val (.int d0), .val (.int d1), .val (.int d2), .val (.ref a1), .val (.ref a3), .val (.int j7), .val (.ref b8), .val (.int (x3 &&& (3 : Int32))), .unset] [(.int (x3 &&& (3 : Int32)))])) (fun _ zk => XS.iload X11.here hx rfl (hb hby at_176) rfl zk) ?_
  by_cases hc178 : (x3 &&& (3 : Int32)) = (0 : Int32)
  · refine Go.st (T' := T11) (g' := (mkF m 181 #[.val (.int x0), .val (.int x1), .val (.int x2), .val (.int x3), .val (.int n1), .val (.int n2), .val (.int c0), .val (.int c1), .val (.int c2), .val (.int d0), .val (.int d1), .val (.int d2), .val (.ref a1), .val (.ref a3), .val (.int j7), .val (.ref b8), .val (.int (x3 &&& (3 : Int32))), .unset] [])) (fun _ zk => XS.ifNo X11.here hx rfl (hb hby at_178) rfl ((if0 _ _).trans (teq hc178).2) zk) ?_
    obtain ⟨T14, h14, X14, e14, E14, A14, D14, -, st14⟩ := newO X11 hx hZ hown (w26 hw) (w27 hw) (w28 hw) e11 (g := (mkF m 181 #[.val (.int x0), .val (.int x1), .val (.int x2), .val (.int x3), .val (.int n1), .val (.int n2), .val (.int c0), .val (.int c1), .val (.int c2), .val (.int d0), .val (.int d1), .val (.int d2), .val (.ref a1), .val (.ref a3), .val (.int j7), .val (.ref b8), .val (.int (x3 &&& (3 : Int32))), .unset] [])) rfl (hb hby at_181) (by decide) (by decide)
    obtain ⟨b14, g14⟩ : ∃ z, z = h11.size := ⟨_, rfl⟩
    rw [← g14] at A14 D14 st14
    have F14_name : Fld Z h14 b14 "com/example/patience/patience/language/Variable" "name" "Ljava/lang/String;" .null := D14 (Or.inr (w40 hw)) (ty := (.object "java/lang/String")) (by decide)
    refine Go.st (T' := T14) (g' := (mkF m 184 #[.val (.int x0), .val (.int x1), .val (.int x2), .val (.int x3), .val (.int n1), .val (.int n2), .val (.int c0), .val (.int c1), .val (.int c2), .val (.int d0), .val (.int d1), .val (.int d2), .val (.ref a1), .val (.ref a3), .val (.int j7), .val (.ref b8), .val (.int (x3 &&& (3 : Int32))), .unset] [(.ref b14)])) (fun _ zk => st14 _ zk) ?_
    refine Go.st (T' := T14) (g' := (mkF m 185 #[.val (.int x0), .val (.int x1), .val (.int x2), .val (.int x3), .val (.int n1), .val (.int n2), .val (.int c0), .val (.int c1), .val (.int c2), .val (.int d0), .val (.int d1), .val (.int d2), .val (.ref a1), .val (.ref a3), .val (.int j7), .val (.ref b8), .val (.int (x3 &&& (3 : Int32))), .unset] [(.ref b14), (.ref b14)])) (fun _ zk => XS.dup X14.here hx rfl (hb hby at_184) rfl rfl zk) ?_
    refine Go.st (T' := T14) (g' := (mkF m 187 #[.val (.int x0), .val (.int x1), .val (.int x2), .val (.int x3), .val (.int n1), .val (.int n2), .val (.int c0), .val (.int c1), .val (.int c2), .val (.int d0), .val (.int d1), .val (.int d2), .val (.ref a1), .val (.ref a3), .val (.int j7), .val (.ref b8), .val (.int (x3 &&& (3 : Int32))), .unset] [(.ref a3), (.ref b14), (.ref b14)])) (fun _ zk => XS.aload X14.here hx rfl (hb hby at_185) rfl rfl zk) ?_
    have x15 : Ext h3 h14 := ((E8.thenK K11 (allS (P := fun x => h3.size ≤ x) (Nat.le_of_eq g8.symm) all0)).tr E14)
    have f16 := S3.exa.ext x15
    have cr18 := (chrE ca13 E14)
    refine Go.callSpS (y := (⟨"com/example/patience/patience/language/Variable", "<init>", "(Ljava/lang/String;)V"⟩ : MethodName)) (a := b14) X14 hx hZ hown e14 hEL cr18.1 hS (Nat.le_trans (Nat.le_refl _) E14.1) rfl (w29 hw) (w30 hw) (w28 hw) (w31 hw) (by decide) (argsL := [(.ref a3)]) (rest := [(.ref b14)]) (W := 1) (rm_vrInit l Z a0 hw [] b14 a3 h14 n0 (Nat.le_trans Z0 (Nat.le_trans (Nat.le_trans (Nat.le_trans (Nat.le_trans E1.1 E3.1) E8.1) K11.1) E14.1)) A14 (Nat.le_trans Z0 (Nat.le_trans (Nat.le_trans (Nat.le_trans (Nat.le_trans E1.1 E3.1) E8.1) K11.1) (Nat.le_of_eq g14.symm))) F14_name f16) all0 rfl (lenOf pd18 rfl) rfl (by rw [hml]; rfl) rfl (by show 2 * 0 + _ ≤ _; exact Nat.le_of_eq rfl) (by decide) (by decide) (by decide) (by decide) (hb hby at_187) ?_
    intro v17 T17 h17 L17 X17 e17 q17 hS hZ hown cr17
    obtain ⟨hv17, Nf17, K17, G17_0⟩ := q17
    subst hv17
    have N17 := Fr.app N11 Nf17
    have ca19 := cr18.trans cr17
    show Go p.tables e below _ T17 (mkF m 190 #[.val (.int x0), .val (.int x1), .val (.int x2), .val (.int x3), .val (.int n1), .val (.int n2), .val (.int c0), .val (.int c1), .val (.int c2), .val (.int d0), .val (.int d1), .val (.int d2), .val (.ref a1), .val (.ref a3), .val (.int j7), .val (.ref b8), .val (.int (x3 &&& (3 : Int32))), .unset] [(.ref b14)])
    refine Go.st (T' := T17) (g' := (mkF m 192 #[.val (.int x0), .val (.int x1), .val (.int x2), .val (.int x3), .val (.int n1), .val (.int n2), .val (.int c0), .val (.int c1), .val (.int c2), .val (.int d0), .val (.int d1), .val (.int d2), .val (.ref a1), .val (.ref a3), .val (.int j7), .val (.ref b8), .val (.int (x3 &&& (3 : Int32))), .val (.ref b14)] [])) (fun _ zk => XS.astore X17.here hx rfl (hb hby at_190) rfl rfl (l' := #[.val (.int x0), .val (.int x1), .val (.int x2), .val (.int x3), .val (.int n1), .val (.int n2), .val (.int c0), .val (.int c1), .val (.int c2), .val (.int d0), .val (.int d1), .val (.int d2), .val (.ref a1), .val (.ref a3), .val (.int j7), .val (.ref b8), .val (.int (x3 &&& (3 : Int32))), .val (.ref b14)]) rfl zk) ?_
    refine Go.st (T' := T17) (g' := (mkF m 194 #[.val (.int x0), .val (.int x1), .val (.int x2), .val (.int x3), .val (.int n1), .val (.int n2), .val (.int c0), .val (.int c1), .val (.int c2), .val (.int d0), .val (.int d1), .val (.int d2), .val (.ref a1), .val (.ref a3), .val (.int j7), .val (.ref b8), .val (.int (x3 &&& (3 : Int32))), .val (.ref b14)] [(.ref b8)])) (fun _ zk => XS.aload X17.here hx rfl (hb hby at_192) rfl rfl zk) ?_
    refine Go.st (T' := T17) (g' := (mkF m 196 #[.val (.int x0), .val (.int x1), .val (.int x2), .val (.int x3), .val (.int n1), .val (.int n2), .val (.int c0), .val (.int c1), .val (.int c2), .val (.int d0), .val (.int d1), .val (.int d2), .val (.ref a1), .val (.ref a3), .val (.int j7), .val (.ref b8), .val (.int (x3 &&& (3 : Int32))), .val (.ref b14)] [(.ref b14), (.ref b8)])) (fun _ zk => XS.aload X17.here hx rfl (hb hby at_194) rfl rfl zk) ?_
    have f20 := (((A8.keep K11).ext E14).keep K17)
    have f21 := (A14.keep K17)
    have x22 : Ext h11 h17 := (E14.thenK K17 (allS (P := fun x => h11.size ≤ x) (Nat.le_of_eq g14.symm) all0))
    have f23 := G11_0.ext x22
    have x24 : Ext h1 h17 := (((x9.thenK K11 (allS (P := fun x => h1.size ≤ x) (Nat.le_trans E3.1 (Nat.le_of_eq g8.symm)) all0)).tr E14).thenK K17 (allS (P := fun x => h1.size ≤ x) (Nat.le_trans (Nat.le_trans (Nat.le_trans E3.1 E8.1) K11.1) (Nat.le_of_eq g14.symm)) all0))
    have f25 := S1.ext x24
    have x26 : Ext h3 h17 := (x15.thenK K17 (allS (P := fun x => h3.size ≤ x) (Nat.le_trans (Nat.le_trans E8.1 K11.1) (Nat.le_of_eq g14.symm)) all0))
    have f27 := S3.ext x26
    have f29 := f5.ext x24
    refine Go.callV (y := (⟨"com/example/patience/patience/language/Variable", "equals", "(Ljava/lang/Object;)Z"⟩ : MethodName)) (z := (⟨"com/example/patience/patience/language/Variable", "equals", "(Ljava/lang/Object;)Z"⟩ : MethodName)) (C := "com/example/patience/patience/language/Variable") (a := b8) X17 hx hZ hown e17 (w41 hw) (w42 hw) (w44 hw) (w43 hw) (w28 hw) (w45 hw) (notFace_of_selects (args := #[]) (mvT hZ (w44 hw))) (by decide) f20 (argsL := [(.ref b14)]) (rest := []) (W := 0) (rm_eqVV l Z a0 hw [] b8 b14 a1 a3 zc (strb n1 c0 c1 c2) (strb n2 d0 d1 d2) h17 n0 (Nat.le_trans Z0 (Nat.le_trans (Nat.le_trans (Nat.le_trans (Nat.le_trans (Nat.le_trans E1.1 E3.1) E8.1) K11.1) E14.1) K17.1)) f29 f20 f21 f23 G17_0 f25 f27 (strb_len _ _ _ _) (strb_len _ _ _ _) CS hz) rfl (lenOf pd16 rfl) rfl (by rw [hml]; rfl) rfl (by show 2 * 0 + _ ≤ _; exact Nat.le_of_eq rfl) (by decide) (by decide) (by decide) (by decide) (hb hby at_196) ?_
    intro v28 T28 h28 L28 X28 e28 q28
    obtain ⟨r28, hv28, hr28, Nf28, hh28⟩ := q28
    subst hv28
    have E28 : T28.heap = h17 := e28.trans hh28
    have N28 := Fr.app N17 Nf28
    show Go p.tables e below _ T28 (mkF m 199 #[.val (.int x0), .val (.int x1), .val (.int x2), .val (.int x3), .val (.int n1), .val (.int n2), .val (.int c0), .val (.int c1), .val (.int c2), .val (.int d0), .val (.int d1), .val (.int d2), .val (.ref a1), .val (.ref a3), .val (.int j7), .val (.ref b8), .val (.int (x3 &&& (3 : Int32))), .val (.ref b14)] [(.int r28)])
    have hf28 : r28 = j7 := own_fin hr28 hj7 (own_same qn1 qn2 qc0 qc1 qc2 qd0 qd1 qd2)
    refine Go.st (T' := T28) (g' := (mkF m 201 #[.val (.int x0), .val (.int x1), .val (.int x2), .val (.int x3), .val (.int n1), .val (.int n2), .val (.int c0), .val (.int c1), .val (.int c2), .val (.int d0), .val (.int d1), .val (.int d2), .val (.ref a1), .val (.ref a3), .val (.int j7), .val (.ref b8), .val (.int (x3 &&& (3 : Int32))), .val (.ref b14)] [(.int j7), (.int r28)])) (fun _ zk => XS.iload X28.here hx rfl (hb hby at_199) rfl zk) ?_
    refine Go.st (T' := T28) (g' := (mkF m 204 #[.val (.int x0), .val (.int x1), .val (.int x2), .val (.int x3), .val (.int n1), .val (.int n2), .val (.int c0), .val (.int c1), .val (.int c2), .val (.int d0), .val (.int d1), .val (.int d2), .val (.ref a1), .val (.ref a3), .val (.int j7), .val (.ref b8), .val (.int (x3 &&& (3 : Int32))), .val (.ref b14)] [])) (fun _ zk => XS.icmpNo X28.here hx rfl (hb hby at_201) rfl (teq (hf28 : r28 = j7)).2 zk) ?_
    refine Go.st (T' := T28) (g' := (mkF m 206 #[.val (.int x0), .val (.int x1), .val (.int x2), .val (.int x3), .val (.int n1), .val (.int n2), .val (.int c0), .val (.int c1), .val (.int c2), .val (.int d0), .val (.int d1), .val (.int d2), .val (.ref a1), .val (.ref a3), .val (.int j7), .val (.ref b8), .val (.int (x3 &&& (3 : Int32))), .val (.ref b14)] [(.ref b14)])) (fun _ zk => XS.aload X28.here hx rfl (hb hby at_204) rfl rfl zk) ?_
    refine Go.st (T' := T28) (g' := (mkF m 208 #[.val (.int x0), .val (.int x1), .val (.int x2), .val (.int x3), .val (.int n1), .val (.int n2), .val (.int c0), .val (.int c1), .val (.int c2), .val (.int d0), .val (.int d1), .val (.int d2), .val (.ref a1), .val (.ref a3), .val (.int j7), .val (.ref b8), .val (.int (x3 &&& (3 : Int32))), .val (.ref b14)] [(.ref b8), (.ref b14)])) (fun _ zk => XS.aload X28.here hx rfl (hb hby at_206) rfl rfl zk) ?_
    refine Go.callV (y := (⟨"com/example/patience/patience/language/Variable", "equals", "(Ljava/lang/Object;)Z"⟩ : MethodName)) (z := (⟨"com/example/patience/patience/language/Variable", "equals", "(Ljava/lang/Object;)Z"⟩ : MethodName)) (C := "com/example/patience/patience/language/Variable") (a := b14) X28 hx hZ hown E28 (w41 hw) (w42 hw) (w44 hw) (w43 hw) (w28 hw) (w45 hw) (notFace_of_selects (args := #[]) (mvT hZ (w44 hw))) (by decide) f21 (argsL := [(.ref b8)]) (rest := []) (W := 0) (rm_eqVV l Z a0 hw [] b14 b8 a3 a1 zc (strb n2 d0 d1 d2) (strb n1 c0 c1 c2) h17 n0 (Nat.le_trans Z0 (Nat.le_trans (Nat.le_trans (Nat.le_trans (Nat.le_trans (Nat.le_trans E1.1 E3.1) E8.1) K11.1) E14.1) K17.1)) f29 f21 f20 G17_0 f23 f27 f25 (strb_len _ _ _ _) (strb_len _ _ _ _) CS hz) rfl (lenOf pd16 rfl) rfl (by rw [hml]; rfl) rfl (by show 2 * 0 + _ ≤ _; exact Nat.le_of_eq rfl) (by decide) (by decide) (by decide) (by decide) (hb hby at_208) ?_
    intro v30 T30 h30 L30 X30 e30 q30
    obtain ⟨r30, hv30, hr30, Nf30, hh30⟩ := q30
    subst hv30
    have E30 : T30.heap = h17 := e30.trans hh30
    have N30 := Fr.app N28 Nf30
    show Go p.tables e below _ T30 (mkF m 211 #[.val (.int x0), .val (.int x1), .val (.int x2), .val (.int x3), .val (.int n1), .val (.int n2), .val (.int c0), .val (.int c1), .val (.int c2), .val (.int d0), .val (.int d1), .val (.int d2), .val (.ref a1), .val (.ref a3), .val (.int j7), .val (.ref b8), .val (.int (x3 &&& (3 : Int32))), .val (.ref b14)] [(.int r30)])
    have hf30 : r30 = j7 := own_fin hr30 hj7 ((⟨Eq.symm, Eq.symm⟩ : _ ↔ _).trans (own_same qn1 qn2 qc0 qc1 qc2 qd0 qd1 qd2))
    refine Go.st (T' := T30) (g' := (mkF m 213 #[.val (.int x0), .val (.int x1), .val (.int x2), .val (.int x3), .val (.int n1), .val (.int n2), .val (.int c0), .val (.int c1), .val (.int c2), .val (.int d0), .val (.int d1), .val (.int d2), .val (.ref a1), .val (.ref a3), .val (.int j7), .val (.ref b8), .val (.int (x3 &&& (3 : Int32))), .val (.ref b14)] [(.int j7), (.int r30)])) (fun _ zk => XS.iload X30.here hx rfl (hb hby at_211) rfl zk) ?_
    refine Go.st (T' := T30) (g' := (mkF m 216 #[.val (.int x0), .val (.int x1), .val (.int x2), .val (.int x3), .val (.int n1), .val (.int n2), .val (.int c0), .val (.int c1), .val (.int c2), .val (.int d0), .val (.int d1), .val (.int d2), .val (.ref a1), .val (.ref a3), .val (.int j7), .val (.ref b8), .val (.int (x3 &&& (3 : Int32))), .val (.ref b14)] [])) (fun _ zk => XS.icmpNo X30.here hx rfl (hb hby at_213) rfl (teq (hf30 : r30 = j7)).2 zk) ?_
    refine Go.st (T' := T30) (g' := (mkF m 218 #[.val (.int x0), .val (.int x1), .val (.int x2), .val (.int x3), .val (.int n1), .val (.int n2), .val (.int c0), .val (.int c1), .val (.int c2), .val (.int d0), .val (.int d1), .val (.int d2), .val (.ref a1), .val (.ref a3), .val (.int j7), .val (.ref b8), .val (.int (x3 &&& (3 : Int32))), .val (.ref b14)] [(.ref b8)])) (fun _ zk => XS.aload X30.here hx rfl (hb hby at_216) rfl rfl zk) ?_
    refine Go.st (T' := T30) (g' := (mkF m 220 #[.val (.int x0), .val (.int x1), .val (.int x2), .val (.int x3), .val (.int n1), .val (.int n2), .val (.int c0), .val (.int c1), .val (.int c2), .val (.int d0), .val (.int d1), .val (.int d2), .val (.ref a1), .val (.ref a3), .val (.int j7), .val (.ref b8), .val (.int (x3 &&& (3 : Int32))), .val (.ref b14)] [(.ref b8), (.ref b8)])) (fun _ zk => XS.aload X30.here hx rfl (hb hby at_218) rfl rfl zk) ?_
    refine Go.callV (y := (⟨"com/example/patience/patience/language/Variable", "equals", "(Ljava/lang/Object;)Z"⟩ : MethodName)) (z := (⟨"com/example/patience/patience/language/Variable", "equals", "(Ljava/lang/Object;)Z"⟩ : MethodName)) (C := "com/example/patience/patience/language/Variable") (a := b8) X30 hx hZ hown E30 (w41 hw) (w42 hw) (w44 hw) (w43 hw) (w28 hw) (w45 hw) (notFace_of_selects (args := #[]) (mvT hZ (w44 hw))) (by decide) f20 (argsL := [(.ref b8)]) (rest := []) (W := 0) (rm_eqVV l Z a0 hw [] b8 b8 a1 a1 zc (strb n1 c0 c1 c2) (strb n1 c0 c1 c2) h17 n0 (Nat.le_trans Z0 (Nat.le_trans (Nat.le_trans (Nat.le_trans (Nat.le_trans (Nat.le_trans E1.1 E3.1) E8.1) K11.1) E14.1) K17.1)) f29 f20 f20 f23 f23 f25 f25 (strb_len _ _ _ _) (strb_len _ _ _ _) CS hz) rfl (lenOf pd16 rfl) rfl (by rw [hml]; rfl) rfl (by show 2 * 0 + _ ≤ _; exact Nat.le_of_eq rfl) (by decide) (by decide) (by decide) (by decide) (hb hby at_220) ?_
    intro v31 T31 h31 L31 X31 e31 q31
    obtain ⟨r31, hv31, hr31, Nf31, hh31⟩ := q31
    subst hv31
    have E31 : T31.heap = h17 := e31.trans hh31
    have N31 := Fr.app N30 Nf31
    show Go p.tables e below _ T31 (mkF m 223 #[.val (.int x0), .val (.int x1), .val (.int x2), .val (.int x3), .val (.int n1), .val (.int n2), .val (.int c0), .val (.int c1), .val (.int c2), .val (.int d0), .val (.int d1), .val (.int d2), .val (.ref a1), .val (.ref a3), .val (.int j7), .val (.ref b8), .val (.int (x3 &&& (3 : Int32))), .val (.ref b14)] [(.int r31)])
    have hf31 := own_self hr31
    refine Go.st (T' := T31) (g' := (mkF m 226 #[.val (.int x0), .val (.int x1), .val (.int x2), .val (.int x3), .val (.int n1), .val (.int n2), .val (.int c0), .val (.int c1), .val (.int c2), .val (.int d0), .val (.int d1), .val (.int d2), .val (.ref a1), .val (.ref a3), .val (.int j7), .val (.ref b8), .val (.int (x3 &&& (3 : Int32))), .val (.ref b14)] [])) (fun _ zk => XS.ifNo X31.here hx rfl (hb hby at_223) rfl ((if0 _ _).trans (feq (hf31 : ¬ (r31 = (0 : Int32)))).1) zk) ?_
    refine Go.st (T' := T31) (g' := (mkF m 227 #[.val (.int x0), .val (.int x1), .val (.int x2), .val (.int x3), .val (.int n1), .val (.int n2), .val (.int c0), .val (.int c1), .val (.int c2), .val (.int d0), .val (.int d1), .val (.int d2), .val (.ref a1), .val (.ref a3), .val (.int j7), .val (.ref b8), .val (.int (x3 &&& (3 : Int32))), .val (.ref b14)] [(.int (1 : Int32))])) (fun _ zk => XS.iconst X31.here hx rfl (hb hby at_226) zk) ?_
    refine Go.st (T' := T31) (g' := (mkF m 231 #[.val (.int x0), .val (.int x1), .val (.int x2), .val (.int x3), .val (.int n1), .val (.int n2), .val (.int c0), .val (.int c1), .val (.int c2), .val (.int d0), .val (.int d1), .val (.int d2), .val (.ref a1), .val (.ref a3), .val (.int j7), .val (.ref b8), .val (.int (x3 &&& (3 : Int32))), .val (.ref b14)] [(.int (1 : Int32))])) (fun _ zk => XS.goto X31.here hx rfl (pc0 := 227) (pc' := 231) rfl (hb hby at_227) (by decide) (by decide) zk) ?_
    refine Go.retNS X31 hx hlk hS (Nat.le_refl _) ca19 hZ hEL hret rfl (by simp) (hb hby at_231) (by decide) (by decide) E31 ?_
    exact ⟨rfl, N31⟩
  · refine Go.st (T' := T11) (g' := (mkF m 232 #[.val (.int x0), .val (.int x1), .val (.int x2), .val (.int x3), .val (.int n1), .val (.int n2), .val (.int c0), .val (.int c1), .val (.int c2), .val (.int d0), .val (.int d1), .val (.int d2), .val (.ref a1), .val (.ref a3), .val (.int j7), .val (.ref b8), .val (.int (x3 &&& (3 : Int32))), .unset] [])) (fun _ zk => XS.ifYes X11.here hx rfl (pc0 := 178) (pc' := 232) rfl (hb hby at_178) rfl ((if0 _ _).trans (feq hc178).2) (by decide) (by decide) zk) ?_
    refine Go.st (T' := T11) (g' := (mkF m 234 #[.val (.int x0), .val (.int x1), .val (.int x2), .val (.int x3), .val (.int n1), .val (.int n2), .val (.int c0), .val (.int c1), .val (.int c2), .val (.int d0), .val (.int d1), .val (.int d2), .val (.ref a1), .val (.ref a3), .val (.int j7), .val (.ref b8), .val (.int (x3 &&& (3 : Int32))), .unset] [(.int (x3 &&& (3 : Int32)))])) (fun _ zk => XS.iload X11.here hx rfl (hb hby at_232) rfl zk) ?_
    refine Go.st (T' := T11) (g' := (mkF m 235 #[.val (.int x0), .val (.int x1), .val (.int x2), .val (.int x3), .val (.int n1), .val (.int n2), .val (.int c0), .val (.int c1), .val (.int c2), .val (.int d0), .val (.int d1), .val (.int d2), .val (.ref a1), .val (.ref a3), .val (.int j7), .val (.ref b8), .val (.int (x3 &&& (3 : Int32))), .unset] [(.int (1 : Int32)), (.int (x3 &&& (3 : Int32)))])) (fun _ zk => XS.iconst X11.here hx rfl (hb hby at_234) zk) ?_
    by_cases hc235 : (x3 &&& (3 : Int32)) = (1 : Int32)
    · refine Go.st (T' := T11) (g' := (mkF m 238 #[.val (.int x0), .val (.int x1), .val (.int x2), .val (.int x3), .val (.int n1), .val (.int n2), .val (.int c0), .val (.int c1), .val (.int c2), .val (.int d0), .val (.int d1), .val (.int d2), .val (.ref a1), .val (.ref a3), .val (.int j7), .val (.ref b8), .val (.int (x3 &&& (3 : Int32))), .unset] [])) (fun _ zk => XS.icmpNo X11.here hx rfl (hb hby at_235) rfl (teq hc235).2 zk) ?_
      refine Go.st (T' := T11) (g' := (mkF m 240 #[.val (.int x0), .val (.int x1), .val (.int x2), .val (.int x3), .val (.int n1), .val (.int n2), .val (.int c0), .val (.int c1), .val (.int c2), .val (.int d0), .val (.int d1), .val (.int d2), .val (.ref a1), .val (.ref a3), .val (.int j7), .val (.ref b8), .val (.int (x3 &&& (3 : Int32))), .unset] [(.ref a3)])) (fun _ zk => XS.aload X11.here hx rfl (hb hby at_238) rfl rfl zk) ?_
      refine Go.st (T' := T11) (g' := (mkF m 242 #[.val (.int x0), .val (.int x1), .val (.int x2), .val (.int x3), .val (.int n1), .val (.int n2), .val (.int c0), .val (.int c1), .val (.int c2), .val (.int d0), .val (.int d1), .val (.int d2), .val (.ref a1), .val (.ref a3), .val (.int j7), .val (.ref b8), .val (.int (x3 &&& (3 : Int32))), .val (.ref a3)] [])) (fun _ zk => XS.astore X11.here hx rfl (hb hby at_240) rfl rfl (l' := #[.val (.int x0), .val (.int x1), .val (.int x2), .val (.int x3), .val (.int n1), .val (.int n2), .val (.int c0), .val (.int c1), .val (.int c2), .val (.int d0), .val (.int d1), .val (.int d2), .val (.ref a1), .val (.ref a3), .val (.int j7), .val (.ref b8), .val (.int (x3 &&& (3 : Int32))), .val (.ref a3)]) rfl zk) ?_
      refine Go.st (T' := T11) (g' := (mkF m 244 #[.val (.int x0), .val (.int x1), .val (.int x2), .val (.int x3), .val (.int n1), .val (.int n2), .val (.int c0), .val (.int c1), .val (.int c2), .val (.int d0), .val (.int d1), .val (.int d2), .val (.ref a1), .val (.ref a3), .val (.int j7), .val (.ref b8), .val (.int (x3 &&& (3 : Int32))), .val (.ref a3)] [(.ref b8)])) (fun _ zk => XS.aload X11.here hx rfl (hb hby at_242) rfl rfl zk) ?_
      refine Go.st (T' := T11) (g' := (mkF m 246 #[.val (.int x0), .val (.int x1), .val (.int x2), .val (.int x3), .val (.int n1), .val (.int n2), .val (.int c0), .val (.int c1), .val (.int c2), .val (.int d0), .val (.int d1), .val (.int d2), .val (.ref a1), .val (.ref a3), .val (.int j7), .val (.ref b8), .val (.int (x3 &&& (3 : Int32))), .val (.ref a3)] [(.ref a3), (.ref b8)])) (fun _ zk => XS.aload X11.here hx rfl (hb hby at_244) rfl rfl zk) ?_
      have x32 : Ext h3 h11 := (E8.thenK K11 (allS (P := fun x => h3.size ≤ x) (Nat.le_of_eq g8.symm) all0))
      have f33 := S3.exa.ext x32
      have f35 := (A8.keep K11)
      refine Go.callV (y := (⟨"com/example/patience/patience/language/Variable", "equals", "(Ljava/lang/Object;)Z"⟩ : MethodName)) (z := (⟨"com/example/patience/patience/language/Variable", "equals", "(Ljava/lang/Object;)Z"⟩ : MethodName)) (C := "com/example/patience/patience/language/Variable") (a := b8) X11 hx hZ hown e11 (w41 hw) (w42 hw) (w44 hw) (w43 hw) (w28 hw) (w45 hw) (notFace_of_selects (args := #[]) (mvT hZ (w44 hw))) (by decide) f35 (argsL := [(.ref a3)]) (rest := []) (W := 0) (rm_eqVS l Z a0 hw [] b8 a3 h11 n0 (Nat.le_trans Z0 (Nat.le_trans (Nat.le_trans (Nat.le_trans E1.1 E3.1) E8.1) K11.1)) f33) rfl (lenOf pd16 rfl) rfl (by rw [hml]; rfl) rfl (by show 2 * 0 + _ ≤ _; exact Nat.le_of_eq rfl) (by decide) (by decide) (by decide) (by decide) (hb hby at_246) ?_
      intro v34 T34 h34 L34 X34 e34 q34
      obtain ⟨hv34, Nf34, hh34⟩ := q34
      subst hv34
      have E34 : T34.heap = h11 := e34.trans hh34
      have N34 := Fr.app N11 Nf34
      show Go p.tables e below _ T34 (mkF m 249 #[.val (.int x0), .val (.int x1), .val (.int x2), .val (.int x3), .val (.int n1), .val (.int n2), .val (.int c0), .val (.int c1), .val (.int c2), .val (.int d0), .val (.int d1), .val (.int d2), .val (.ref a1), .val (.ref a3), .val (.int j7), .val (.ref b8), .val (.int (x3 &&& (3 : Int32))), .val (.ref a3)] [(.int (0 : Int32))])
      refine Go.st (T' := T34) (g' := (mkF m 252 #[.val (.int x0), .val (.int x1), .val (.int x2), .val (.int x3), .val (.int n1), .val (.int n2), .val (.int c0), .val (.int c1), .val (.int c2), .val (.int d0), .val (.int d1), .val (.int d2), .val (.ref a1), .val (.ref a3), .val (.int j7), .val (.ref b8), .val (.int (x3 &&& (3 : Int32))), .val (.ref a3)] [])) (fun _ zk => XS.ifNo X34.here hx rfl (hb hby at_249) rfl ((if0 _ _).trans (teq (rfl : (0 : Int32) = (0 : Int32))).2) zk) ?_
      refine Go.st (T' := T34) (g' := (mkF m 254 #[.val (.int x0), .val (.int x1), .val (.int x2), .val (.int x3), .val (.int n1), .val (.int n2), .val (.int c0), .val (.int c1), .val (.int c2), .val (.int d0), .val (.int d1), .val (.int d2), .val (.ref a1), .val (.ref a3), .val (.int j7), .val (.ref b8), .val (.int (x3 &&& (3 : Int32))), .val (.ref a3)] [(.ref b8)])) (fun _ zk => XS.aload X34.here hx rfl (hb hby at_252) rfl rfl zk) ?_
      refine Go.st (T' := T34) (g' := (mkF m 256 #[.val (.int x0), .val (.int x1), .val (.int x2), .val (.int x3), .val (.int n1), .val (.int n2), .val (.int c0), .val (.int c1), .val (.int c2), .val (.int d0), .val (.int d1), .val (.int d2), .val (.ref a1), .val (.ref a3), .val (.int j7), .val (.ref b8), .val (.int (x3 &&& (3 : Int32))), .val (.ref a3)] [(.ref b8), (.ref b8)])) (fun _ zk => XS.aload X34.here hx rfl (hb hby at_254) rfl rfl zk) ?_
      have x36 : Ext h1 h11 := (x9.thenK K11 (allS (P := fun x => h1.size ≤ x) (Nat.le_trans E3.1 (Nat.le_of_eq g8.symm)) all0))
      have f37 := S1.ext x36
      have f39 := f5.ext x36
      refine Go.callV (y := (⟨"com/example/patience/patience/language/Variable", "equals", "(Ljava/lang/Object;)Z"⟩ : MethodName)) (z := (⟨"com/example/patience/patience/language/Variable", "equals", "(Ljava/lang/Object;)Z"⟩ : MethodName)) (C := "com/example/patience/patience/language/Variable") (a := b8) X34 hx hZ hown E34 (w41 hw) (w42 hw) (w44 hw) (w43 hw) (w28 hw) (w45 hw) (notFace_of_selects (args := #[]) (mvT hZ (w44 hw))) (by decide) f35 (argsL := [(.ref b8)]) (rest := []) (W := 0) (rm_eqVV l Z a0 hw [] b8 b8 a1 a1 zc (strb n1 c0 c1 c2) (strb n1 c0 c1 c2) h11 n0 (Nat.le_trans Z0 (Nat.le_trans (Nat.le_trans (Nat.le_trans E1.1 E3.1) E8.1) K11.1)) f39 f35 f35 G11_0 G11_0 f37 f37 (strb_len _ _ _ _) (strb_len _ _ _ _) CS hz) rfl (lenOf pd16 rfl) rfl (by rw [hml]; rfl) rfl (by show 2 * 0 + _ ≤ _; exact Nat.le_of_eq rfl) (by decide) (by decide) (by decide) (by decide) (hb hby at_256) ?_
      intro v38 T38 h38 L38 X38 e38 q38
      obtain ⟨r38, hv38, hr38, Nf38, hh38⟩ := q38
      subst hv38
      have E38 : T38.heap = h11 := e38.trans hh38
      have N38 := Fr.app N34 Nf38
      show Go p.tables e below _ T38 (mkF m 259 #[.val (.int x0), .val (.int x1), .val (.int x2), .val (.int x3), .val (.int n1), .val (.int n2), .val (.int c0), .val (.int c1), .val (.int c2), .val (.int d0), .val (.int d1), .val (.int d2), .val (.ref a1), .val (.ref a3), .val (.int j7), .val (.ref b8), .val (.int (x3 &&& (3 : Int32))), .val (.ref a3)] [(.int r38)])
      have hf38 := own_self hr38
      refine Go.st (T' := T38) (g' := (mkF m 262 #[.val (.int x0), .val (.int x1), .val (.int x2), .val (.int x3), .val (.int n1), .val (.int n2), .val (.int c0), .val (.int c1), .val (.int c2), .val (.int d0), .val (.int d1), .val (.int d2), .val (.ref a1), .val (.ref a3), .val (.int j7), .val (.ref b8), .val (.int (x3 &&& (3 : Int32))), .val (.ref a3)] [])) (fun _ zk => XS.ifNo X38.here hx rfl (hb hby at_259) rfl ((if0 _ _).trans (feq (hf38 : ¬ (r38 = (0 : Int32)))).1) zk) ?_
      refine Go.st (T' := T38) (g' := (mkF m 263 #[.val (.int x0), .val (.int x1), .val (.int x2), .val (.int x3), .val (.int n1), .val (.int n2), .val (.int c0), .val (.int c1), .val (.int c2), .val (.int d0), .val (.int d1), .val (.int d2), .val (.ref a1), .val (.ref a3), .val (.int j7), .val (.ref b8), .val (.int (x3 &&& (3 : Int32))), .val (.ref a3)] [(.int (1 : Int32))])) (fun _ zk => XS.iconst X38.here hx rfl (hb hby at_262) zk) ?_
      refine Go.st (T' := T38) (g' := (mkF m 267 #[.val (.int x0), .val (.int x1), .val (.int x2), .val (.int x3), .val (.int n1), .val (.int n2), .val (.int c0), .val (.int c1), .val (.int c2), .val (.int d0), .val (.int d1), .val (.int d2), .val (.ref a1), .val (.ref a3), .val (.int j7), .val (.ref b8), .val (.int (x3 &&& (3 : Int32))), .val (.ref a3)] [(.int (1 : Int32))])) (fun _ zk => XS.goto X38.here hx rfl (pc0 := 263) (pc' := 267) rfl (hb hby at_263) (by decide) (by decide) zk) ?_
      refine Go.retNS X38 hx hlk hS (Nat.le_refl _) ca13 hZ hEL hret rfl (by simp) (hb hby at_267) (by decide) (by decide) E38 ?_
      exact ⟨rfl, N38⟩
    · refine Go.st (T' := T11) (g' := (mkF m 268 #[.val (.int x0), .val (.int x1), .val (.int x2), .val (.int x3), .val (.int n1), .val (.int n2), .val (.int c0), .val (.int c1), .val (.int c2), .val (.int d0), .val (.int d1), .val (.int d2), .val (.ref a1), .val (.ref a3), .val (.int j7), .val (.ref b8), .val (.int (x3 &&& (3 : Int32))), .unset] [])) (fun _ zk => XS.icmpYes X11.here hx rfl (pc0 := 235) (pc' := 268) rfl (hb hby at_235) rfl (feq hc235).2 (by decide) (by decide) zk) ?_
      refine Go.st (T' := T11) (g' := (mkF m 270 #[.val (.int x0), .val (.int x1), .val (.int x2), .val (.int x3), .val (.int n1), .val (.int n2), .val (.int c0), .val (.int c1), .val (.int c2), .val (.int d0), .val (.int d1), .val (.int d2), .val (.ref a1), .val (.ref a3), .val (.int j7), .val (.ref b8), .val (.int (x3 &&& (3 : Int32))), .unset] [(.int (x3 &&& (3 : Int32)))])) (fun _ zk => XS.iload X11.here hx rfl (hb hby at_268) rfl zk) ?_
      refine Go.st (T' := T11) (g' := (mkF m 271 #[.val (.int x0), .val (.int x1), .val (.int x2), .val (.int x3), .val (.int n1), .val (.int n2), .val (.int c0), .val (.int c1), .val (.int c2), .val (.int d0), .val (.int d1), .val (.int d2), .val (.ref a1), .val (.ref a3), .val (.int j7), .val (.ref b8), .val (.int (x3 &&& (3 : Int32))), .unset] [(.int (2 : Int32)), (.int (x3 &&& (3 : Int32)))])) (fun _ zk => XS.iconst X11.here hx rfl (hb hby at_270) zk) ?_
      by_cases hc271 : (x3 &&& (3 : Int32)) = (2 : Int32)
      · refine Go.st (T' := T11) (g' := (mkF m 274 #[.val (.int x0), .val (.int x1), .val (.int x2), .val (.int x3), .val (.int n1), .val (.int n2), .val (.int c0), .val (.int c1), .val (.int c2), .val (.int d0), .val (.int d1), .val (.int d2), .val (.ref a1), .val (.ref a3), .val (.int j7), .val (.ref b8), .val (.int (x3 &&& (3 : Int32))), .unset] [])) (fun _ zk => XS.icmpNo X11.here hx rfl (hb hby at_271) rfl (teq hc271).2 zk) ?_
        refine Go.st (T' := T11) (g' := (mkF m 276 #[.val (.int x0), .val (.int x1), .val (.int x2), .val (.int x3), .val (.int n1), .val (.int n2), .val (.int c0), .val (.int c1), .val (.int c2), .val (.int d0), .val (.int d1), .val (.int d2), .val (.ref a1), .val (.ref a3), .val (.int j7), .val (.ref b8), .val (.int (x3 &&& (3 : Int32))), .unset] [(.ref b8)])) (fun _ zk => XS.aload X11.here hx rfl (hb hby at_274) rfl rfl zk) ?_
        refine Go.st (T' := T11) (g' := (mkF m 277 #[.val (.int x0), .val (.int x1), .val (.int x2), .val (.int x3), .val (.int n1), .val (.int n2), .val (.int c0), .val (.int c1), .val (.int c2), .val (.int d0), .val (.int d1), .val (.int d2), .val (.ref a1), .val (.ref a3), .val (.int j7), .val (.ref b8), .val (.int (x3 &&& (3 : Int32))), .unset] [.null, (.ref b8)])) (fun _ zk => XS.aconstNull X11.here hx rfl (hb hby at_276) zk) ?_
        have f41 := (A8.keep K11)
        refine Go.callV (y := (⟨"com/example/patience/patience/language/Variable", "equals", "(Ljava/lang/Object;)Z"⟩ : MethodName)) (z := (⟨"com/example/patience/patience/language/Variable", "equals", "(Ljava/lang/Object;)Z"⟩ : MethodName)) (C := "com/example/patience/patience/language/Variable") (a := b8) X11 hx hZ hown e11 (w41 hw) (w42 hw) (w44 hw) (w43 hw) (w28 hw) (w45 hw) (notFace_of_selects (args := #[]) (mvT hZ (w44 hw))) (by decide) f41 (argsL := [.null]) (rest := []) (W := 0) (rm_eqVN l Z a0 hw [] b8 h11 n0 (Nat.le_trans Z0 (Nat.le_trans (Nat.le_trans (Nat.le_trans E1.1 E3.1) E8.1) K11.1)) ) rfl (lenOf pd16 rfl) rfl (by rw [hml]; rfl) rfl (by show 2 * 0 + _ ≤ _; exact Nat.le_of_eq rfl) (by decide) (by decide) (by decide) (by decide) (hb hby at_277) ?_
        intro v40 T40 h40 L40 X40 e40 q40
        obtain ⟨hv40, Nf40, hh40⟩ := q40
        subst hv40
        have E40 : T40.heap = h11 := e40.trans hh40
        have N40 := Fr.app N11 Nf40
        show Go p.tables e below _ T40 (mkF m 280 #[.val (.int x0), .val (.int x1), .val (.int x2), .val (.int x3), .val (.int n1), .val (.int n2), .val (.int c0), .val (.int c1), .val (.int c2), .val (.int d0), .val (.int d1), .val (.int d2), .val (.ref a1), .val (.ref a3), .val (.int j7), .val (.ref b8), .val (.int (x3 &&& (3 : Int32))), .unset] [(.int (0 : Int32))])
        refine Go.st (T' := T40) (g' := (mkF m 283 #[.val (.int x0), .val (.int x1), .val (.int x2), .val (.int x3), .val (.int n1), .val (.int n2), .val (.int c0), .val (.int c1), .val (.int c2), .val (.int d0), .val (.int d1), .val (.int d2), .val (.ref a1), .val (.ref a3), .val (.int j7), .val (.ref b8), .val (.int (x3 &&& (3 : Int32))), .unset] [])) (fun _ zk => XS.ifNo X40.here hx rfl (hb hby at_280) rfl ((if0 _ _).trans (teq (rfl : (0 : Int32) = (0 : Int32))).2) zk) ?_
        refine Go.st (T' := T40) (g' := (mkF m 284 #[.val (.int x0), .val (.int x1), .val (.int x2), .val (.int x3), .val (.int n1), .val (.int n2), .val (.int c0), .val (.int c1), .val (.int c2), .val (.int d0), .val (.int d1), .val (.int d2), .val (.ref a1), .val (.ref a3), .val (.int j7), .val (.ref b8), .val (.int (x3 &&& (3 : Int32))), .unset] [(.int (1 : Int32))])) (fun _ zk => XS.iconst X40.here hx rfl (hb hby at_283) zk) ?_
        refine Go.st (T' := T40) (g' := (mkF m 288 #[.val (.int x0), .val (.int x1), .val (.int x2), .val (.int x3), .val (.int n1), .val (.int n2), .val (.int c0), .val (.int c1), .val (.int c2), .val (.int d0), .val (.int d1), .val (.int d2), .val (.ref a1), .val (.ref a3), .val (.int j7), .val (.ref b8), .val (.int (x3 &&& (3 : Int32))), .unset] [(.int (1 : Int32))])) (fun _ zk => XS.goto X40.here hx rfl (pc0 := 284) (pc' := 288) rfl (hb hby at_284) (by decide) (by decide) zk) ?_
        refine Go.retNS X40 hx hlk hS (Nat.le_refl _) ca13 hZ hEL hret rfl (by simp) (hb hby at_288) (by decide) (by decide) E40 ?_
        exact ⟨rfl, N40⟩
      · refine Go.st (T' := T11) (g' := (mkF m 289 #[.val (.int x0), .val (.int x1), .val (.int x2), .val (.int x3), .val (.int n1), .val (.int n2), .val (.int c0), .val (.int c1), .val (.int c2), .val (.int d0), .val (.int d1), .val (.int d2), .val (.ref a1), .val (.ref a3), .val (.int j7), .val (.ref b8), .val (.int (x3 &&& (3 : Int32))), .unset] [])) (fun _ zk => XS.icmpYes X11.here hx rfl (pc0 := 271) (pc' := 289) rfl (hb hby at_271) rfl (feq hc271).2 (by decide) (by decide) zk) ?_
        obtain ⟨T42, h42, X42, e42, E42, A42, D42, -, st42⟩ := newO X11 hx hZ hown (w71 hw) (w72 hw) (w73 hw) e11 (g := (mkF m 289 #[.val (.int x0), .val (.int x1), .val (.int x2), .val (.int x3), .val (.int n1), .val (.int n2), .val (.int c0), .val (.int c1), .val (.int c2), .val (.int d0), .val (.int d1), .val (.int d2), .val (.ref a1), .val (.ref a3), .val (.int j7), .val (.ref b8), .val (.int (x3 &&& (3 : Int32))), .unset] [])) rfl (hb hby at_289) (by decide) (by decide)
        obtain ⟨b42, g42⟩ : ∃ z, z = h11.size := ⟨_, rfl⟩
        rw [← g42] at A42 D42 st42
        have F42_name : Fld Z h42 b42 "com/example/patience/patience/language/Action" "name" "Ljava/lang/String;" .null := D42 (Or.inr (w86 hw)) (ty := (.object "java/lang/String")) (by decide)
        refine Go.st (T' := T42) (g' := (mkF m 292 #[.val (.int x0), .val (.int x1), .val (.int x2), .val (.int x3), .val (.int n1), .val (.int n2), .val (.int c0), .val (.int c1), .val (.int c2), .val (.int d0), .val (.int d1), .val (.int d2), .val (.ref a1), .val (.ref a3), .val (.int j7), .val (.ref b8), .val (.int (x3 &&& (3 : Int32))), .unset] [(.ref b42)])) (fun _ zk => st42 _ zk) ?_
        refine Go.st (T' := T42) (g' := (mkF m 293 #[.val (.int x0), .val (.int x1), .val (.int x2), .val (.int x3), .val (.int n1), .val (.int n2), .val (.int c0), .val (.int c1), .val (.int c2), .val (.int d0), .val (.int d1), .val (.int d2), .val (.ref a1), .val (.ref a3), .val (.int j7), .val (.ref b8), .val (.int (x3 &&& (3 : Int32))), .unset] [(.ref b42), (.ref b42)])) (fun _ zk => XS.dup X42.here hx rfl (hb hby at_292) rfl rfl zk) ?_
        refine Go.st (T' := T42) (g' := (mkF m 295 #[.val (.int x0), .val (.int x1), .val (.int x2), .val (.int x3), .val (.int n1), .val (.int n2), .val (.int c0), .val (.int c1), .val (.int c2), .val (.int d0), .val (.int d1), .val (.int d2), .val (.ref a1), .val (.ref a3), .val (.int j7), .val (.ref b8), .val (.int (x3 &&& (3 : Int32))), .unset] [(.ref a3), (.ref b42), (.ref b42)])) (fun _ zk => XS.aload X42.here hx rfl (hb hby at_293) rfl rfl zk) ?_
        have x43 : Ext h3 h42 := ((E8.thenK K11 (allS (P := fun x => h3.size ≤ x) (Nat.le_of_eq g8.symm) all0)).tr E42)
        have f44 := S3.exa.ext x43
        have cr46 := (chrE ca13 E42)
        refine Go.callSpS (y := (⟨"com/example/patience/patience/language/Action", "<init>", "(Ljava/lang/String;)V"⟩ : MethodName)) (a := b42) X42 hx hZ hown e42 hEL cr46.1 hS (Nat.le_trans (Nat.le_refl _) E42.1) rfl (w74 hw) (w75 hw) (w73 hw) (w76 hw) (by decide) (argsL := [(.ref a3)]) (rest := [(.ref b42)]) (W := 1) (rm_acInit l Z a0 hw [] b42 a3 h42 n0 (Nat.le_trans Z0 (Nat.le_trans (Nat.le_trans (Nat.le_trans (Nat.le_trans E1.1 E3.1) E8.1) K11.1) E42.1)) A42 (Nat.le_trans Z0 (Nat.le_trans (Nat.le_trans (Nat.le_trans (Nat.le_trans E1.1 E3.1) E8.1) K11.1) (Nat.le_of_eq g42.symm))) F42_name f44) all0 rfl (lenOf pd18 rfl) rfl (by rw [hml]; rfl) rfl (by show 2 * 0 + _ ≤ _; exact Nat.le_of_eq rfl) (by decide) (by decide) (by decide) (by decide) (hb hby at_295) ?_
        intro v45 T45 h45 L45 X45 e45 q45 hS hZ hown cr45
        obtain ⟨hv45, Nf45, K45, G45_0⟩ := q45
        subst hv45
        have N45 := Fr.app N11 Nf45
        have ca47 := cr46.trans cr45
        show Go p.tables e below _ T45 (mkF m 298 #[.val (.int x0), .val (.int x1), .val (.int x2), .val (.int x3), .val (.int n1), .val (.int n2), .val (.int c0), .val (.int c1), .val (.int c2), .val (.int d0), .val (.int d1), .val (.int d2), .val (.ref a1), .val (.ref a3), .val (.int j7), .val (.ref b8), .val (.int (x3 &&& (3 : Int32))), .unset] [(.ref b42)])
        refine Go.st (T' := T45) (g' := (mkF m 300 #[.val (.int x0), .val (.int x1), .val (.int x2), .val (.int x3), .val (.int n1), .val (.int n2), .val (.int c0), .val (.int c1), .val (.int c2), .val (.int d0), .val (.int d1), .val (.int d2), .val (.ref a1), .val (.ref a3), .val (.int j7), .val (.ref b8), .val (.int (x3 &&& (3 : Int32))), .val (.ref b42)] [])) (fun _ zk => XS.astore X45.here hx rfl (hb hby at_298) rfl rfl (l' := #[.val (.int x0), .val (.int x1), .val (.int x2), .val (.int x3), .val (.int n1), .val (.int n2), .val (.int c0), .val (.int c1), .val (.int c2), .val (.int d0), .val (.int d1), .val (.int d2), .val (.ref a1), .val (.ref a3), .val (.int j7), .val (.ref b8), .val (.int (x3 &&& (3 : Int32))), .val (.ref b42)]) rfl zk) ?_
        refine Go.st (T' := T45) (g' := (mkF m 302 #[.val (.int x0), .val (.int x1), .val (.int x2), .val (.int x3), .val (.int n1), .val (.int n2), .val (.int c0), .val (.int c1), .val (.int c2), .val (.int d0), .val (.int d1), .val (.int d2), .val (.ref a1), .val (.ref a3), .val (.int j7), .val (.ref b8), .val (.int (x3 &&& (3 : Int32))), .val (.ref b42)] [(.ref b8)])) (fun _ zk => XS.aload X45.here hx rfl (hb hby at_300) rfl rfl zk) ?_
        refine Go.st (T' := T45) (g' := (mkF m 304 #[.val (.int x0), .val (.int x1), .val (.int x2), .val (.int x3), .val (.int n1), .val (.int n2), .val (.int c0), .val (.int c1), .val (.int c2), .val (.int d0), .val (.int d1), .val (.int d2), .val (.ref a1), .val (.ref a3), .val (.int j7), .val (.ref b8), .val (.int (x3 &&& (3 : Int32))), .val (.ref b42)] [(.ref b42), (.ref b8)])) (fun _ zk => XS.aload X45.here hx rfl (hb hby at_302) rfl rfl zk) ?_
        have f48 := (A42.keep K45)
        have f50 := (((A8.keep K11).ext E42).keep K45)
        refine Go.callV (y := (⟨"com/example/patience/patience/language/Variable", "equals", "(Ljava/lang/Object;)Z"⟩ : MethodName)) (z := (⟨"com/example/patience/patience/language/Variable", "equals", "(Ljava/lang/Object;)Z"⟩ : MethodName)) (C := "com/example/patience/patience/language/Variable") (a := b8) X45 hx hZ hown e45 (w41 hw) (w42 hw) (w44 hw) (w43 hw) (w28 hw) (w45 hw) (notFace_of_selects (args := #[]) (mvT hZ (w44 hw))) (by decide) f50 (argsL := [(.ref b42)]) (rest := []) (W := 0) (rm_eqVA l Z a0 hw [] b8 b42 h45 n0 (Nat.le_trans Z0 (Nat.le_trans (Nat.le_trans (Nat.le_trans (Nat.le_trans (Nat.le_trans E1.1 E3.1) E8.1) K11.1) E42.1) K45.1)) f48) rfl (lenOf pd16 rfl) rfl (by rw [hml]; rfl) rfl (by show 2 * 0 + _ ≤ _; exact Nat.le_of_eq rfl) (by decide) (by decide) (by decide) (by decide) (hb hby at_304) ?_
        intro v49 T49 h49 L49 X49 e49 q49
        obtain ⟨hv49, Nf49, hh49⟩ := q49
        subst hv49
        have E49 : T49.heap = h45 := e49.trans hh49
        have N49 := Fr.app N45 Nf49
        show Go p.tables e below _ T49 (mkF m 307 #[.val (.int x0), .val (.int x1), .val (.int x2), .val (.int x3), .val (.int n1), .val (.int n2), .val (.int c0), .val (.int c1), .val (.int c2), .val (.int d0), .val (.int d1), .val (.int d2), .val (.ref a1), .val (.ref a3), .val (.int j7), .val (.ref b8), .val (.int (x3 &&& (3 : Int32))), .val (.ref b42)] [(.int (0 : Int32))])
        refine Go.st (T' := T49) (g' := (mkF m 310 #[.val (.int x0), .val (.int x1), .val (.int x2), .val (.int x3), .val (.int n1), .val (.int n2), .val (.int c0), .val (.int c1), .val (.int c2), .val (.int d0), .val (.int d1), .val (.int d2), .val (.ref a1), .val (.ref a3), .val (.int j7), .val (.ref b8), .val (.int (x3 &&& (3 : Int32))), .val (.ref b42)] [])) (fun _ zk => XS.ifNo X49.here hx rfl (hb hby at_307) rfl ((if0 _ _).trans (teq (rfl : (0 : Int32) = (0 : Int32))).2) zk) ?_
        refine Go.st (T' := T49) (g' := (mkF m 311 #[.val (.int x0), .val (.int x1), .val (.int x2), .val (.int x3), .val (.int n1), .val (.int n2), .val (.int c0), .val (.int c1), .val (.int c2), .val (.int d0), .val (.int d1), .val (.int d2), .val (.ref a1), .val (.ref a3), .val (.int j7), .val (.ref b8), .val (.int (x3 &&& (3 : Int32))), .val (.ref b42)] [(.int (1 : Int32))])) (fun _ zk => XS.iconst X49.here hx rfl (hb hby at_310) zk) ?_
        refine Go.st (T' := T49) (g' := (mkF m 315 #[.val (.int x0), .val (.int x1), .val (.int x2), .val (.int x3), .val (.int n1), .val (.int n2), .val (.int c0), .val (.int c1), .val (.int c2), .val (.int d0), .val (.int d1), .val (.int d2), .val (.ref a1), .val (.ref a3), .val (.int j7), .val (.ref b8), .val (.int (x3 &&& (3 : Int32))), .val (.ref b42)] [(.int (1 : Int32))])) (fun _ zk => XS.goto X49.here hx rfl (pc0 := 311) (pc' := 315) rfl (hb hby at_311) (by decide) (by decide) zk) ?_
        refine Go.retNS X49 hx hlk hS (Nat.le_refl _) ca47 hZ hEL hret rfl (by simp) (hb hby at_315) (by decide) (by decide) E49 ?_
        exact ⟨rfl, N49⟩
set_option maxRecDepth 65536 in
set_option maxHeartbeats 40000000 in
theorem comes_1 {Post : Tables → Env → Array Value → State → Outcome → State → Prop} (hpost : ∀ tb e args s v u, (limb_1_1.after args s (.returned v) u = true ∧ limb_1_2.after args s (.returned v) u = true ∧ True) → ReturnedEndW s (.returned v) u (Jvm.fieldLocs frame_1_writes args s ++ Jvm.arrayLocs frame_1_arrays args s ++ Jvm.staticLocs frame_1_statics s) 32 3200 → Post tb e args s (.returned v) u) :
    ArmFor flags0 classFile x code maxLocals ret World_1 tables_1 room_1 Calls_1 rest_1 Pre_1 Post := by
  intro l hfl _ _ p e ha hc hk s m args below hf hA hF happ hP
  obtain ⟨hcalls, hrest, hpre⟩ := hP
  obtain ⟨-, -, -, hnamed, -, -, -, hat⟩ := (Spec.applies_iff hf).mp happ
  obtain ⟨hg, hn⟩ := and_e (Cond.before_iff.mp (show (Jvm.Cond.and given_1 narrow_1).before args s = true from hpre))
  obtain ⟨g0a, g0b⟩ := and_e hg
  obtain ⟨g1a, g1b⟩ := and_e g0b
  obtain ⟨g2a, g2b⟩ := and_e g1b
  obtain ⟨g3a, g3b⟩ := and_e g2b
  obtain ⟨w0', w1', w2', w3', rfl⟩ : ∃ w0' w1' w2' w3' : Value, args = #[w0', w1', w2', w3'] := by
    have hs : args.size = 4 := by simpa [Cond.value, given_1] using g0a
    obtain ⟨L⟩ := args
    match L, hs with
    | [w0', w1', w2', w3'], _ => exact ⟨w0', w1', w2', w3', rfl⟩
  have hw := fun d (hd : d ∈ tables_1) => atoms_spec (ws := Jvm.Cond.code x code maxLocals ret :: tables_1) hat d (List.mem_cons_of_mem _ hd)
  have hfit : Fit s := fun {y c} hc i hi => by
    obtain ⟨ha, rfl⟩ := Array.getElem?_eq_some_iff.mp hc
    have q := List.all_eq_true.mp ((Array.all_eq_true_iff_forall_mem.mp hF) _ (Array.getElem_mem ha)) i (List.mem_range.mpr hi)
    simpa [Array.getElem?_eq_getElem hi] using q
  obtain ⟨i0, ei0⟩ := is_v g1a
  obtain rfl : w0' = (.int i0) := Option.some.inj ei0
  obtain ⟨i1, ei1⟩ := is_v g2a
  obtain rfl : w1' = (.int i1) := Option.some.inj ei1
  obtain ⟨i2, ei2⟩ := is_v g3a
  obtain rfl : w2' = (.int i2) := Option.some.inj ei2
  obtain ⟨i3, ei3⟩ := is_v g3b
  obtain rfl : w3' = (.int i3) := Option.some.inj ei3
  have hrest' : rest_1_c.before _ s = true := hrest
  have hR := Cond.before_iff.mp hrest'
  obtain ⟨r0a, r0b⟩ := and_e hR
  obtain ⟨r1a, r1b⟩ := and_e r0b
  obtain ⟨r2a, r2b⟩ := and_e r1b
  obtain ⟨r3a, r3b⟩ := and_e r2b
  obtain ⟨r4a, r4b⟩ := and_e r3b
  obtain ⟨r5a, r5b⟩ := and_e r4b
  obtain ⟨r6a, r6b⟩ := and_e r5b
  obtain ⟨r7a, r7b⟩ := and_e r6b
  obtain ⟨r8a, r8b⟩ := and_e r7b
  obtain ⟨zc, ezc⟩ := is_v r1a
  have CS : Sta s s.heap "java/lang/String" "COMPACT_STRINGS" "Z" (.int zc) := Sta.start ezc (Or.inl (Cond.before_iff.mpr r0a))
  have hz : ¬ zc = 0 := fun q => by
    have q1 := not_v r2a
    rw [eq_i ezc (Term.int_eval (0)) (by rw [q])] at q1
    cases q1
  obtain ⟨fm, efm, rf⟩ := isR_v r8a
  have FM : Sta s s.heap "jdk/internal/util/Preconditions" "SIOOBE_FORMATTER" "Ljava/util/function/BiFunction;" fm := Sta.start efm (Or.inl (Cond.before_iff.mpr r7a))
  have hcw : Jvm.Lit.compactW.before _ s = true := Cond.before_iff.mpr r2a
  have HCH : CHv s EL0 s.vm s.heap := CHv.start (hEL0 hw) (fun p hp => hcalls.1 p hp) hcw (w19 hw) (w5 hw)
  obtain ⟨n, o, h1, h2, h3, _, L, rfl, ⟨rfl, N⟩, -, hq⟩ := rm_law l s _ hw tables_1 i0 i1 i2 i3 zc s.heap s.heap.size (Nat.le_refl _) (Old.start s) CS hz p e ha hc hk s m _ below hf ((Spec.applies_iff_loose hf).mp happ).1 ⟨rfl, State.Warmed39.refl s, rfl, HCH, fun _ q => nomatch q⟩ trivial
  exact ⟨n, _, h1, h2, h3, hpost _ _ _ _ _ _ ⟨Cond.after_iff.mpr rfl, Cond.after_iff.mpr (eq_i res_at (Term.int_eval (1)) rfl), trivial⟩ ⟨hq.1, hq.2.1, hq.2.2.1, (hq.2.2.2.sift fun y hy => Or.inr (N y hy)).mono (by decide) (by decide)⟩⟩
theorem main_1_1 : Claimed_1_1 := comes_1 fun _ _ _ _ _ _ h hF => ⟨h.1, hF⟩
theorem main_1_2 : Claimed_1_2 := comes_1 fun _ _ _ _ _ _ h hF => ⟨h.2.1, hF⟩
end Jvm.Pilot.@@N@@
namespace Jvm.Pilot.@@N@@
open Jvm Jvm.ClassFile Sem Op Lib Jvm.Free Jvm.Stand Jvm.Pilot.@@N@@.Jvm.D
/-! MADE BY PROGRAM (witnessworld.py) out of the Statement's table words and the real class files: 24 classes; the members and pool entries that the words name. The judged class is class 1, her method 2. -/
namespace start1
open Jvm.ClassFile
def u (s : String) : CpInfo := .utf8 (stringToUtf16 s)
/-- a pool by its gaps: so many unusable entries, then the entry; so many at the end -/
def gap : Nat → List CpInfo → List CpInfo
  | 0, r => r
  | n + 1, r => .unusable :: gap n r
def poolList (es : List (Nat × CpInfo)) (last : Nat) : List CpInfo := es.foldr (fun e r => gap e.1 (e.2 :: r)) (gap last [])
def pool (es : List (Nat × CpInfo)) (last : Nat) : Array CpInfo := ⟨poolList es last⟩
def fileOf (pool : Array CpInfo) (this : Nat) (attrs : Array Attribute := #[]) (ms : Array MethodInfo := #[]) (fl : Nat := 33) (sup : Nat := 0) (ifs : Array Nat := #[]) (fds : Array FieldInfo := #[]) : ClassFile where
  minorVersion := 0
  majorVersion := 65
  constantPool := pool
  accessFlags := fl
  thisClass := this
  superClass := sup
  interfaces := ifs
  fields := fds
  methods := ms
  attributes := attrs
def plain (name : String) (sup : Option ClassId) : Class where
  name := name
  kind := .ordinary
  loader := none
  accessFlags := 33
  super := sup
  interfaces := #[]
  cf := none
  fields := #[]
  methods := #[]
  instanceTypes := #[]
  staticTypes := #[]
  resolved := #[]
  callSites := []
  init := .initialized
  statics := none
  mirror := none

def pool0 : Array CpInfo := pool [(5, u "<init>"), (0, u "()V"), (1, .class_ 10), (1, u "java/lang/Object")] 113

def k0c0 : Code := { maxStack := 0, maxLocals := 1, code := object_method_1_code, exceptionTable := #[], attributes := #[] }
def k0m0 : Method := { name := "<init>", desc := "()V", sig := { parameters := [], returnType := none }, accessFlags := 1, code := some k0c0 }
/-- java/lang/Object -/
def k0 : Class := { plain "java/lang/Object" none with
  accessFlags := 33
  interfaces := #[]
  cf := some (fileOf pool0 8 #[] #[{ accessFlags := 1, nameIndex := 5, descriptorIndex := 6, attributes := #[] }] 33 0 #[] #[])
  fields := #[]
  methods := #[k0m0]
  instanceTypes := #[]
  staticTypes := #[]
  resolved := Array.replicate 124 none
  statics := none }

def pool1 : Array CpInfo := pool [(2, .class_ 4), (1, u "java/lang/Object"), (0, u "<init>"), (0, u "()V"), (0, .class_ 8), (0, u "java/lang/String"), (0, .methodref 7 10), (0, .nameAndType 5 11), (0, u "([C)V"), (0, .methodref 13 14), (0, .class_ 15), (0, .nameAndType 16 17), (0, u "com/example/patience/patience/language/VariableEqualsPinLaw"), (0, u "mk"), (0, u "(ICCC)Ljava/lang/String;"), (0, .class_ 19), (0, u "com/example/patience/patience/language/Variable"), (0, .methodref 18 21), (0, .nameAndType 5 22), (0, u "(Ljava/lang/String;)V"), (0, .methodref 18 24), (0, .nameAndType 25 26), (0, u "equals"), (0, u "(Ljava/lang/Object;)Z"), (0, .class_ 28), (0, u "com/example/patience/patience/language/Action"), (0, .methodref 27 21), (3, u "law"), (0, u "(IIII)Z")] 2

def k1m0 : Method := { name := "<init>", desc := "()V", sig := { parameters := [], returnType := none }, accessFlags := 1, code := none }
def k1c1 : Code := { maxStack := 6, maxLocals := 4, code := method_2_code, exceptionTable := #[], attributes := #[] }
def k1m1 : Method := { name := "mk", desc := "(ICCC)Ljava/lang/String;", sig := { parameters := [.int, .char, .char, .char], returnType := some (.object "java/lang/String") }, accessFlags := 10, code := some k1c1 }
def k1c2 : Code := { maxStack := 4, maxLocals := 18, code := code, exceptionTable := #[], attributes := #[] }
def k1m2 : Method := { name := "law", desc := "(IIII)Z", sig := { parameters := [.int, .int, .int, .int], returnType := some .boolean }, accessFlags := 9, code := some k1c2 }
/-- com/example/patience/patience/language/VariableEqualsPinLaw -/
def k1 : Class := { plain "com/example/patience/patience/language/VariableEqualsPinLaw" (some 0) with
  accessFlags := 49
  interfaces := #[]
  cf := some (fileOf pool1 13 #[] #[{ accessFlags := 1, nameIndex := 5, descriptorIndex := 6, attributes := #[] }, { accessFlags := 10, nameIndex := 16, descriptorIndex := 17, attributes := #[] }, { accessFlags := 9, nameIndex := 33, descriptorIndex := 34, attributes := #[] }] 49 2 #[] #[])
  fields := #[]
  methods := #[k1m0, k1m1, k1m2]
  instanceTypes := #[]
  staticTypes := #[]
  resolved := Array.replicate 37 none
  statics := none }

def pool2 : Array CpInfo := pool [(1, .class_ 2), (0, u "java/io/Serializable"), (0, .class_ 4), (0, u "java/lang/Object")] 2

/-- java/io/Serializable -/
def k2 : Class := { plain "java/io/Serializable" (some 0) with
  accessFlags := 1537
  interfaces := #[]
  cf := some (fileOf pool2 1 #[] #[] 1537 3 #[] #[])
  fields := #[]
  methods := #[]
  instanceTypes := #[]
  staticTypes := #[]
  resolved := Array.replicate 7 none
  statics := none }

def pool3 : Array CpInfo := pool [(1, .class_ 2), (0, u "java/lang/Comparable"), (0, .class_ 4), (0, u "java/lang/Object")] 7

/-- java/lang/Comparable -/
def k3 : Class := { plain "java/lang/Comparable" (some 0) with
  accessFlags := 1537
  interfaces := #[]
  cf := some (fileOf pool3 1 #[] #[] 1537 3 #[] #[])
  fields := #[]
  methods := #[]
  instanceTypes := #[]
  staticTypes := #[]
  resolved := Array.replicate 12 none
  statics := none }

def pool4 : Array CpInfo := pool [(2, .class_ 4), (1, u "java/lang/CharSequence"), (42, .class_ 48), (0, u "java/lang/CharSequence$1CodePointIterator"), (10, .class_ 60), (0, u "java/lang/CharSequence$1CharIterator"), (5, .class_ 67), (0, u "java/lang/Object")] 63

/-- java/lang/CharSequence -/
def k4 : Class := { plain "java/lang/CharSequence" (some 0) with
  accessFlags := 1537
  interfaces := #[]
  cf := some (fileOf pool4 2 #[.nestMembers #[47, 59]] #[] 1537 66 #[] #[])
  fields := #[]
  methods := #[]
  instanceTypes := #[]
  staticTypes := #[]
  resolved := Array.replicate 131 none
  statics := none }

def pool5 : Array CpInfo := pool [(1, .class_ 2), (0, u "java/lang/constant/Constable"), (0, .class_ 4), (0, u "java/lang/Object")] 6

/-- java/lang/constant/Constable -/
def k5 : Class := { plain "java/lang/constant/Constable" (some 0) with
  accessFlags := 1537
  interfaces := #[]
  cf := some (fileOf pool5 1 #[] #[] 1537 3 #[] #[])
  fields := #[]
  methods := #[]
  instanceTypes := #[]
  staticTypes := #[]
  resolved := Array.replicate 11 none
  statics := none }

def pool6 : Array CpInfo := pool [(1, .class_ 2), (0, u "java/lang/constant/ConstantDesc"), (0, .class_ 4), (0, u "java/lang/Object")] 32

/-- java/lang/constant/ConstantDesc -/
def k6 : Class := { plain "java/lang/constant/ConstantDesc" (some 0) with
  accessFlags := 1537
  interfaces := #[]
  cf := some (fileOf pool6 1 #[] #[] 1537 3 #[] #[])
  fields := #[]
  methods := #[]
  instanceTypes := #[]
  staticTypes := #[]
  resolved := Array.replicate 37 none
  statics := none }

def pool7 : Array CpInfo := pool [(1, .methodref 2 3), (0, .class_ 4), (0, .nameAndType 5 6), (0, u "java/lang/Object"), (0, u "<init>"), (0, u "()V"), (0, .string 8), (0, u ""), (0, .fieldref 10 11), (0, .class_ 12), (0, .nameAndType 13 14), (0, u "java/lang/String"), (0, u "value"), (0, u "[B"), (0, .fieldref 10 16), (0, .nameAndType 17 18), (0, u "coder"), (0, u "B"), (2, u "hash"), (0, u "I"), (2, u "hashIsZero"), (0, u "Z"), (0, .methodref 10 28), (0, .nameAndType 5 29), (0, u "([CIILjava/lang/Void;)V"), (8, .fieldref 10 39), (0, .nameAndType 40 26), (0, u "COMPACT_STRINGS"), (1, .class_ 44), (1, u "java/lang/StringUTF16"), (0, u "compress"), (1, .methodref 42 48), (0, .nameAndType 49 50), (0, u "coderFromArrayLen"), (0, u "([BI)B"), (56, .class_ 109), (1, u "java/lang/StringLatin1"), (67, .methodref 42 178), (0, .nameAndType 45 179), (0, u "([CII)[B"), (361, .methodref 107 542), (0, .nameAndType 543 544), (0, u "equals"), (0, u "([B[B)Z"), (28, u "(Ljava/lang/Object;)Z"), (1, .class_ 576), (0, u "java/lang/CharSequence"), (22, u "CASE_INSENSITIVE_ORDER"), (0, u "Ljava/util/Comparator;"), (409, u "([C)V"), (90, u "serialPersistentFields"), (0, u "[Ljava/io/ObjectStreamField;"), (0, .class_ 1104), (0, u "java/lang/String$CaseInsensitiveComparator"), (1, .class_ 1107), (0, u "java/io/Serializable"), (0, .class_ 1109), (0, u "java/lang/Comparable"), (0, .class_ 1111), (0, u "java/lang/constant/Constable"), (0, .class_ 1113), (0, u "java/lang/constant/ConstantDesc"), (2, u "serialVersionUID"), (0, u "J"), (3, u "REPL"), (0, u "C"), (2, u "LATIN1"), (1, u "UTF16")] 323

def k7m0 : Method := { name := "<init>", desc := "()V", sig := { parameters := [], returnType := none }, accessFlags := 1, code := none }
def k7c1 : Code := { maxStack := 5, maxLocals := 2, code := jdk_42_method_3_code, exceptionTable := #[], attributes := #[] }
def k7m1 : Method := { name := "<init>", desc := "([C)V", sig := { parameters := [(.array .char)], returnType := none }, accessFlags := 1, code := some k7c1 }
def k7c2 : Code := { maxStack := 2, maxLocals := 3, code := jdk_42_method_66_code, exceptionTable := #[], attributes := #[] }
def k7m2 : Method := { name := "equals", desc := "(Ljava/lang/Object;)Z", sig := { parameters := [(.object "java/lang/Object")], returnType := some .boolean }, accessFlags := 1, code := some k7c2 }
def k7c3 : Code := { maxStack := 4, maxLocals := 6, code := jdk_42_method_149_code, exceptionTable := #[], attributes := #[] }
def k7m3 : Method := { name := "<init>", desc := "([CIILjava/lang/Void;)V", sig := { parameters := [(.array .char), .int, .int, (.object "java/lang/Void")], returnType := none }, accessFlags := 2, code := some k7c3 }
/-- java/lang/String -/
def k7 : Class := { plain "java/lang/String" (some 0) with
  accessFlags := 49
  interfaces := #[2, 3, 4, 5, 6]
  cf := some (fileOf pool7 10 #[.nestMembers #[1103]] #[{ accessFlags := 1, nameIndex := 5, descriptorIndex := 6, attributes := #[] }, { accessFlags := 1, nameIndex := 5, descriptorIndex := 1010, attributes := #[] }, { accessFlags := 1, nameIndex := 543, descriptorIndex := 573, attributes := #[] }, { accessFlags := 2, nameIndex := 5, descriptorIndex := 29, attributes := #[] }] 49 2 #[1106, 1108, 575, 1110, 1112] #[{ accessFlags := 18, nameIndex := 13, descriptorIndex := 14, attributes := #[] }, { accessFlags := 18, nameIndex := 17, descriptorIndex := 18, attributes := #[] }, { accessFlags := 2, nameIndex := 21, descriptorIndex := 22, attributes := #[] }, { accessFlags := 2, nameIndex := 25, descriptorIndex := 26, attributes := #[] }, { accessFlags := 26, nameIndex := 1116, descriptorIndex := 1117, attributes := #[] }, { accessFlags := 24, nameIndex := 40, descriptorIndex := 26, attributes := #[] }, { accessFlags := 26, nameIndex := 1101, descriptorIndex := 1102, attributes := #[] }, { accessFlags := 26, nameIndex := 1121, descriptorIndex := 1122, attributes := #[] }, { accessFlags := 25, nameIndex := 599, descriptorIndex := 600, attributes := #[] }, { accessFlags := 24, nameIndex := 1125, descriptorIndex := 18, attributes := #[] }, { accessFlags := 24, nameIndex := 1127, descriptorIndex := 18, attributes := #[] }])
  fields := #[{ name := "value", type := (.array .byte), accessFlags := 18, slot := 0, constantValue := 0 }, { name := "coder", type := .byte, accessFlags := 18, slot := 1, constantValue := 0 }, { name := "hash", type := .int, accessFlags := 2, slot := 2, constantValue := 0 }, { name := "hashIsZero", type := .boolean, accessFlags := 2, slot := 3, constantValue := 0 }, { name := "serialVersionUID", type := .long, accessFlags := 26, slot := 0, constantValue := 0 }, { name := "COMPACT_STRINGS", type := .boolean, accessFlags := 24, slot := 1, constantValue := 0 }, { name := "serialPersistentFields", type := (.array (.object "java/io/ObjectStreamField")), accessFlags := 26, slot := 2, constantValue := 0 }, { name := "REPL", type := .char, accessFlags := 26, slot := 3, constantValue := 0 }, { name := "CASE_INSENSITIVE_ORDER", type := (.object "java/util/Comparator"), accessFlags := 25, slot := 4, constantValue := 0 }, { name := "LATIN1", type := .byte, accessFlags := 24, slot := 5, constantValue := 0 }, { name := "UTF16", type := .byte, accessFlags := 24, slot := 6, constantValue := 0 }]
  methods := #[k7m0, k7m1, k7m2, k7m3]
  instanceTypes := #[(.array .byte), .byte, .int, .boolean]
  staticTypes := #[.long, .boolean, (.array (.object "java/io/ObjectStreamField")), .char, (.object "java/util/Comparator"), .byte, .byte]
  resolved := Array.replicate 1451 none
  statics := some 0 }

def pool8 : Array CpInfo := pool [(8, .class_ 10), (1, u "com/example/patience/patience/language/Term"), (2, .class_ 14), (0, u "java/lang/Object")] 20

/-- com/example/patience/patience/language/Term -/
def k8 : Class := { plain "com/example/patience/patience/language/Term" (some 0) with
  accessFlags := 1537
  interfaces := #[]
  cf := some (fileOf pool8 8 #[] #[] 1537 13 #[] #[])
  fields := #[]
  methods := #[]
  instanceTypes := #[]
  staticTypes := #[]
  resolved := Array.replicate 35 none
  statics := none }

def pool9 : Array CpInfo := pool [(1, .methodref 2 3), (0, .class_ 4), (0, .nameAndType 5 6), (0, u "java/lang/Object"), (0, u "<init>"), (0, u "()V"), (0, .string 8), (0, u "name"), (0, .methodref 10 11), (0, .class_ 12), (0, .nameAndType 13 14), (0, u "java/util/Objects"), (0, u "requireNonNull"), (0, u "(Ljava/lang/Object;Ljava/lang/String;)Ljava/lang/Object;"), (0, .class_ 16), (0, u "java/lang/String"), (0, .fieldref 18 19), (0, .class_ 20), (0, .nameAndType 8 21), (0, u "com/example/patience/patience/language/Variable"), (0, u "Ljava/lang/String;"), (6, .class_ 29), (0, u "com/example/patience/patience/language/Term"), (9, .methodref 15 40), (0, .nameAndType 41 42), (0, u "equals"), (0, u "(Ljava/lang/Object;)Z"), (4, u "(Ljava/lang/String;)V")] 17

def k9c0 : Code := { maxStack := 3, maxLocals := 2, code := prog_67_method_1_code, exceptionTable := #[], attributes := #[] }
def k9m0 : Method := { name := "<init>", desc := "(Ljava/lang/String;)V", sig := { parameters := [(.object "java/lang/String")], returnType := none }, accessFlags := 1, code := some k9c0 }
def k9c1 : Code := { maxStack := 2, maxLocals := 3, code := prog_67_method_7_code, exceptionTable := #[], attributes := #[] }
def k9m1 : Method := { name := "equals", desc := "(Ljava/lang/Object;)Z", sig := { parameters := [(.object "java/lang/Object")], returnType := some .boolean }, accessFlags := 1, code := some k9c1 }
/-- com/example/patience/patience/language/Variable -/
def k9 : Class := { plain "com/example/patience/patience/language/Variable" (some 0) with
  accessFlags := 49
  interfaces := #[8]
  cf := some (fileOf pool9 18 #[] #[{ accessFlags := 1, nameIndex := 5, descriptorIndex := 47, attributes := #[] }, { accessFlags := 1, nameIndex := 41, descriptorIndex := 42, attributes := #[] }] 49 2 #[28] #[{ accessFlags := 18, nameIndex := 8, descriptorIndex := 21, attributes := #[] }])
  fields := #[{ name := "name", type := (.object "java/lang/String"), accessFlags := 18, slot := 0, constantValue := 0 }]
  methods := #[k9m0, k9m1]
  instanceTypes := #[(.object "java/lang/String")]
  staticTypes := #[]
  resolved := Array.replicate 65 none
  statics := none }

def pool10 : Array CpInfo := pool [(2, .class_ 4), (1, u "java/lang/Object"), (0, u "<init>"), (0, u "()V"), (35, .class_ 44), (1, u "java/util/Objects"), (0, u "requireNonNull"), (48, u "(Ljava/lang/Object;Ljava/lang/String;)Ljava/lang/Object;")] 89

def k10m0 : Method := { name := "<init>", desc := "()V", sig := { parameters := [], returnType := none }, accessFlags := 2, code := none }
def k10c1 : Code := { maxStack := 3, maxLocals := 2, code := jdk_31_method_11_code, exceptionTable := #[], attributes := #[] }
def k10m1 : Method := { name := "requireNonNull", desc := "(Ljava/lang/Object;Ljava/lang/String;)Ljava/lang/Object;", sig := { parameters := [(.object "java/lang/Object"), (.object "java/lang/String")], returnType := some (.object "java/lang/Object") }, accessFlags := 9, code := some k10c1 }
/-- java/util/Objects -/
def k10 : Class := { plain "java/util/Objects" (some 0) with
  accessFlags := 49
  interfaces := #[]
  cf := some (fileOf pool10 42 #[] #[{ accessFlags := 2, nameIndex := 5, descriptorIndex := 6, attributes := #[] }, { accessFlags := 9, nameIndex := 45, descriptorIndex := 94, attributes := #[] }] 49 2 #[] #[])
  fields := #[]
  methods := #[k10m0, k10m1]
  instanceTypes := #[]
  staticTypes := #[]
  resolved := Array.replicate 184 none
  statics := none }

def pool11 : Array CpInfo := pool [(6, .class_ 8), (1, u "java/lang/Object"), (0, u "<init>"), (0, u "()V"), (1, .class_ 14), (1, u "java/lang/StringUTF16"), (31, u "$assertionsDisabled"), (0, u "Z"), (13, u "HI_BYTE_SHIFT"), (0, u "I"), (2, u "LO_BYTE_SHIFT"), (49, .methodref 12 116), (0, .nameAndType 117 118), (0, u "compress"), (0, u "([CI[BII)I"), (3, u "([CII)[B"), (138, u "coderFromArrayLen"), (0, u "([BI)B"), (106, .class_ 371), (1, u "java/lang/StringUTF16$LinesSpliterator"), (58, u "MAX_LENGTH"), (196, .class_ 628), (0, u "java/lang/StringUTF16$CodePointsSpliterator"), (0, .class_ 630), (0, u "java/lang/StringUTF16$CharsSpliterator")] 4

def k11m0 : Method := { name := "<init>", desc := "()V", sig := { parameters := [], returnType := none }, accessFlags := 0, code := none }
def k11c1 : Code := { maxStack := 2, maxLocals := 2, code := jdk_52_method_15_code, exceptionTable := #[], attributes := #[] }
def k11m1 : Method := { name := "coderFromArrayLen", desc := "([BI)B", sig := { parameters := [(.array .byte), .int], returnType := some .byte }, accessFlags := 8, code := some k11c1 }
def k11c2 : Code := { maxStack := 5, maxLocals := 6, code := jdk_52_method_16_code, exceptionTable := #[], attributes := #[] }
def k11m2 : Method := { name := "compress", desc := "([CII)[B", sig := { parameters := [(.array .char), .int, .int], returnType := some (.array .byte) }, accessFlags := 9, code := some k11c2 }
def k11c3 : Code := { maxStack := 3, maxLocals := 7, code := jdk_52_method_21_code, exceptionTable := #[], attributes := #[] }
def k11m3 : Method := { name := "compress", desc := "([CI[BII)I", sig := { parameters := [(.array .char), .int, (.array .byte), .int, .int], returnType := some .int }, accessFlags := 9, code := some k11c3 }
/-- java/lang/StringUTF16 -/
def k11 : Class := { plain "java/lang/StringUTF16" (some 0) with
  accessFlags := 48
  interfaces := #[]
  cf := some (fileOf pool11 12 #[.nestMembers #[627, 629, 369]] #[{ accessFlags := 0, nameIndex := 9, descriptorIndex := 10, attributes := #[] }, { accessFlags := 8, nameIndex := 261, descriptorIndex := 262, attributes := #[] }, { accessFlags := 9, nameIndex := 117, descriptorIndex := 122, attributes := #[] }, { accessFlags := 9, nameIndex := 117, descriptorIndex := 118, attributes := #[] }] 48 6 #[] #[{ accessFlags := 26, nameIndex := 61, descriptorIndex := 62, attributes := #[] }, { accessFlags := 26, nameIndex := 65, descriptorIndex := 62, attributes := #[] }, { accessFlags := 24, nameIndex := 430, descriptorIndex := 62, attributes := #[] }, { accessFlags := 4120, nameIndex := 46, descriptorIndex := 47, attributes := #[] }])
  fields := #[{ name := "HI_BYTE_SHIFT", type := .int, accessFlags := 26, slot := 0, constantValue := 0 }, { name := "LO_BYTE_SHIFT", type := .int, accessFlags := 26, slot := 1, constantValue := 0 }, { name := "MAX_LENGTH", type := .int, accessFlags := 24, slot := 2, constantValue := 0 }, { name := "$assertionsDisabled", type := .boolean, accessFlags := 4120, slot := 3, constantValue := 0 }]
  methods := #[k11m0, k11m1, k11m2, k11m3]
  instanceTypes := #[]
  staticTypes := #[.int, .int, .int, .boolean]
  resolved := Array.replicate 635 none
  statics := none }

def pool12 : Array CpInfo := pool [(4, .class_ 6), (1, u "java/lang/Object"), (0, u "<init>"), (0, u "()V"), (5, .class_ 16), (1, u "java/lang/StringLatin1"), (104, u "$assertionsDisabled"), (0, u "Z"), (98, .class_ 223), (1, u "java/lang/StringLatin1$LinesSpliterator"), (57, u "equals"), (0, u "([B[B)Z"), (107, .class_ 391), (0, u "java/lang/StringLatin1$CharsSpliterator")] 3

def k12m0 : Method := { name := "<init>", desc := "()V", sig := { parameters := [], returnType := none }, accessFlags := 0, code := none }
def k12c1 : Code := { maxStack := 3, maxLocals := 3, code := jdk_43_method_13_code, exceptionTable := #[], attributes := #[] }
def k12m1 : Method := { name := "equals", desc := "([B[B)Z", sig := { parameters := [(.array .byte), (.array .byte)], returnType := some .boolean }, accessFlags := 9, code := some k12c1 }
/-- java/lang/StringLatin1 -/
def k12 : Class := { plain "java/lang/StringLatin1" (some 0) with
  accessFlags := 48
  interfaces := #[]
  cf := some (fileOf pool12 14 #[.nestMembers #[390, 221]] #[{ accessFlags := 0, nameIndex := 7, descriptorIndex := 8, attributes := #[] }, { accessFlags := 9, nameIndex := 281, descriptorIndex := 282, attributes := #[] }] 48 4 #[] #[{ accessFlags := 4120, nameIndex := 121, descriptorIndex := 122, attributes := #[] }])
  fields := #[{ name := "$assertionsDisabled", type := .boolean, accessFlags := 4120, slot := 0, constantValue := 0 }]
  methods := #[k12m0, k12m1]
  instanceTypes := #[]
  staticTypes := #[.boolean]
  resolved := Array.replicate 395 none
  statics := none }

def pool13 : Array CpInfo := pool [(1, .methodref 2 3), (0, .class_ 4), (0, .nameAndType 5 6), (0, u "java/lang/Object"), (0, u "<init>"), (0, u "()V"), (0, .class_ 8), (0, u "java/lang/Record")] 13

def k13c0 : Code := { maxStack := 1, maxLocals := 1, code := jdk_30_method_1_code, exceptionTable := #[], attributes := #[] }
def k13m0 : Method := { name := "<init>", desc := "()V", sig := { parameters := [], returnType := none }, accessFlags := 4, code := some k13c0 }
/-- java/lang/Record -/
def k13 : Class := { plain "java/lang/Record" (some 0) with
  accessFlags := 1057
  interfaces := #[]
  cf := some (fileOf pool13 7 #[] #[{ accessFlags := 4, nameIndex := 5, descriptorIndex := 6, attributes := #[] }] 1057 2 #[] #[])
  fields := #[]
  methods := #[k13m0]
  instanceTypes := #[]
  staticTypes := #[]
  resolved := Array.replicate 22 none
  statics := none }

def pool14 : Array CpInfo := pool [(1, .methodref 2 3), (0, .class_ 4), (0, .nameAndType 5 6), (0, u "java/lang/Record"), (0, u "<init>"), (0, u "()V"), (0, .string 8), (0, u "name"), (0, .methodref 10 11), (0, .class_ 12), (0, .nameAndType 13 14), (0, u "java/util/Objects"), (0, u "requireNonNull"), (0, u "(Ljava/lang/Object;Ljava/lang/String;)Ljava/lang/Object;"), (0, .fieldref 16 17), (0, .class_ 18), (0, .nameAndType 8 19), (0, u "com/example/patience/patience/language/Action"), (0, u "Ljava/lang/String;"), (12, u "(Ljava/lang/String;)V"), (2, u "TAU"), (0, u "Lcom/example/patience/patience/language/Action;")] 26

def k14c0 : Code := { maxStack := 2, maxLocals := 2, code := prog_47_method_1_code, exceptionTable := #[], attributes := #[] }
def k14m0 : Method := { name := "<init>", desc := "(Ljava/lang/String;)V", sig := { parameters := [(.object "java/lang/String")], returnType := none }, accessFlags := 1, code := some k14c0 }
/-- com/example/patience/patience/language/Action -/
def k14 : Class := { plain "com/example/patience/patience/language/Action" (some 13) with
  accessFlags := 49
  interfaces := #[]
  cf := some (fileOf pool14 16 #[] #[{ accessFlags := 1, nameIndex := 5, descriptorIndex := 32, attributes := #[] }] 49 2 #[] #[{ accessFlags := 18, nameIndex := 8, descriptorIndex := 19, attributes := #[] }, { accessFlags := 25, nameIndex := 35, descriptorIndex := 36, attributes := #[] }])
  fields := #[{ name := "name", type := (.object "java/lang/String"), accessFlags := 18, slot := 0, constantValue := 0 }, { name := "TAU", type := (.object "com/example/patience/patience/language/Action"), accessFlags := 25, slot := 0, constantValue := 0 }]
  methods := #[k14m0]
  instanceTypes := #[(.object "java/lang/String")]
  staticTypes := #[(.object "com/example/patience/patience/language/Action")]
  resolved := Array.replicate 63 none
  statics := none }

def pool15 : Array CpInfo := pool [(2, .class_ 4), (1, u "java/lang/Object"), (0, u "<init>"), (0, u "()V"), (17, .class_ 26), (1, u "jdk/internal/util/Preconditions"), (28, .class_ 56), (0, u "jdk/internal/util/Preconditions$4"), (57, .class_ 115), (0, u "jdk/internal/util/Preconditions$1"), (7, u "SIOOBE_FORMATTER"), (0, u "Ljava/util/function/BiFunction;"), (0, .class_ 126), (0, u "jdk/internal/util/Preconditions$2"), (3, u "AIOOBE_FORMATTER"), (0, .class_ 132), (0, u "jdk/internal/util/Preconditions$3"), (3, u "IOOBE_FORMATTER")] 57

def k15m0 : Method := { name := "<init>", desc := "()V", sig := { parameters := [], returnType := none }, accessFlags := 1, code := none }
/-- jdk/internal/util/Preconditions -/
def k15 : Class := { plain "jdk/internal/util/Preconditions" (some 0) with
  accessFlags := 33
  interfaces := #[]
  cf := some (fileOf pool15 24 #[.nestMembers #[55, 131, 125, 114]] #[{ accessFlags := 1, nameIndex := 5, descriptorIndex := 6, attributes := #[] }] 33 2 #[] #[{ accessFlags := 25, nameIndex := 123, descriptorIndex := 124, attributes := #[] }, { accessFlags := 25, nameIndex := 130, descriptorIndex := 124, attributes := #[] }, { accessFlags := 25, nameIndex := 136, descriptorIndex := 124, attributes := #[] }])
  fields := #[{ name := "SIOOBE_FORMATTER", type := (.object "java/util/function/BiFunction"), accessFlags := 25, slot := 0, constantValue := 0 }, { name := "AIOOBE_FORMATTER", type := (.object "java/util/function/BiFunction"), accessFlags := 25, slot := 1, constantValue := 0 }, { name := "IOOBE_FORMATTER", type := (.object "java/util/function/BiFunction"), accessFlags := 25, slot := 2, constantValue := 0 }]
  methods := #[k15m0]
  instanceTypes := #[]
  staticTypes := #[(.object "java/util/function/BiFunction"), (.object "java/util/function/BiFunction"), (.object "java/util/function/BiFunction")]
  resolved := Array.replicate 194 none
  statics := some 1 }

def pool16 : Array CpInfo := pool [(9, u "<init>"), (6, .class_ 18), (1, u "java/lang/Object"), (0, u "()V"), (1, .class_ 23), (1, u "jdk/internal/util/ArraysSupport"), (0, u "LOG2_ARRAY_LONG_INDEX_SCALE"), (0, u "I"), (2, u "U"), (0, u "Ljdk/internal/misc/Unsafe;"), (8, u "BIG_ENDIAN"), (0, u "Z"), (8, u "LOG2_BYTE_BIT_SIZE"), (4, u "LOG2_ARRAY_INT_INDEX_SCALE"), (54, u "JLA"), (0, u "Ljdk/internal/access/JavaLangAccess;"), (11, u "LOG2_ARRAY_BOOLEAN_INDEX_SCALE"), (9, u "LOG2_ARRAY_BYTE_INDEX_SCALE"), (5, u "LOG2_ARRAY_CHAR_INDEX_SCALE"), (5, u "LOG2_ARRAY_SHORT_INDEX_SCALE"), (18, u "LOG2_ARRAY_FLOAT_INDEX_SCALE"), (24, u "LOG2_ARRAY_DOUBLE_INDEX_SCALE"), (89, u "T_BOOLEAN"), (2, u "T_CHAR"), (1, u "T_FLOAT"), (1, u "T_DOUBLE"), (1, u "T_BYTE"), (1, u "T_SHORT"), (1, u "T_INT"), (1, u "T_LONG"), (1, u "SOFT_MAX_ARRAY_LENGTH")] 83

def k16m0 : Method := { name := "<init>", desc := "()V", sig := { parameters := [], returnType := none }, accessFlags := 2, code := none }
/-- jdk/internal/util/ArraysSupport -/
def k16 : Class := { plain "jdk/internal/util/ArraysSupport" (some 0) with
  accessFlags := 33
  interfaces := #[]
  cf := some (fileOf pool16 21 #[] #[{ accessFlags := 2, nameIndex := 9, descriptorIndex := 19, attributes := #[] }] 33 16 #[] #[{ accessFlags := 24, nameIndex := 28, descriptorIndex := 29, attributes := #[] }, { accessFlags := 26, nameIndex := 38, descriptorIndex := 39, attributes := #[] }, { accessFlags := 25, nameIndex := 121, descriptorIndex := 25, attributes := #[] }, { accessFlags := 25, nameIndex := 131, descriptorIndex := 25, attributes := #[] }, { accessFlags := 25, nameIndex := 137, descriptorIndex := 25, attributes := #[] }, { accessFlags := 25, nameIndex := 143, descriptorIndex := 25, attributes := #[] }, { accessFlags := 25, nameIndex := 53, descriptorIndex := 25, attributes := #[] }, { accessFlags := 25, nameIndex := 24, descriptorIndex := 25, attributes := #[] }, { accessFlags := 25, nameIndex := 162, descriptorIndex := 25, attributes := #[] }, { accessFlags := 25, nameIndex := 187, descriptorIndex := 25, attributes := #[] }, { accessFlags := 26, nameIndex := 48, descriptorIndex := 25, attributes := #[] }, { accessFlags := 25, nameIndex := 277, descriptorIndex := 25, attributes := #[] }, { accessFlags := 25, nameIndex := 280, descriptorIndex := 25, attributes := #[] }, { accessFlags := 25, nameIndex := 282, descriptorIndex := 25, attributes := #[] }, { accessFlags := 25, nameIndex := 284, descriptorIndex := 25, attributes := #[] }, { accessFlags := 25, nameIndex := 286, descriptorIndex := 25, attributes := #[] }, { accessFlags := 25, nameIndex := 288, descriptorIndex := 25, attributes := #[] }, { accessFlags := 25, nameIndex := 290, descriptorIndex := 25, attributes := #[] }, { accessFlags := 25, nameIndex := 292, descriptorIndex := 25, attributes := #[] }, { accessFlags := 26, nameIndex := 108, descriptorIndex := 109, attributes := #[] }, { accessFlags := 25, nameIndex := 294, descriptorIndex := 25, attributes := #[] }])
  fields := #[{ name := "U", type := (.object "jdk/internal/misc/Unsafe"), accessFlags := 24, slot := 0, constantValue := 0 }, { name := "BIG_ENDIAN", type := .boolean, accessFlags := 26, slot := 1, constantValue := 0 }, { name := "LOG2_ARRAY_BOOLEAN_INDEX_SCALE", type := .int, accessFlags := 25, slot := 2, constantValue := 0 }, { name := "LOG2_ARRAY_BYTE_INDEX_SCALE", type := .int, accessFlags := 25, slot := 3, constantValue := 0 }, { name := "LOG2_ARRAY_CHAR_INDEX_SCALE", type := .int, accessFlags := 25, slot := 4, constantValue := 0 }, { name := "LOG2_ARRAY_SHORT_INDEX_SCALE", type := .int, accessFlags := 25, slot := 5, constantValue := 0 }, { name := "LOG2_ARRAY_INT_INDEX_SCALE", type := .int, accessFlags := 25, slot := 6, constantValue := 0 }, { name := "LOG2_ARRAY_LONG_INDEX_SCALE", type := .int, accessFlags := 25, slot := 7, constantValue := 0 }, { name := "LOG2_ARRAY_FLOAT_INDEX_SCALE", type := .int, accessFlags := 25, slot := 8, constantValue := 0 }, { name := "LOG2_ARRAY_DOUBLE_INDEX_SCALE", type := .int, accessFlags := 25, slot := 9, constantValue := 0 }, { name := "LOG2_BYTE_BIT_SIZE", type := .int, accessFlags := 26, slot := 10, constantValue := 0 }, { name := "T_BOOLEAN", type := .int, accessFlags := 25, slot := 11, constantValue := 0 }, { name := "T_CHAR", type := .int, accessFlags := 25, slot := 12, constantValue := 0 }, { name := "T_FLOAT", type := .int, accessFlags := 25, slot := 13, constantValue := 0 }, { name := "T_DOUBLE", type := .int, accessFlags := 25, slot := 14, constantValue := 0 }, { name := "T_BYTE", type := .int, accessFlags := 25, slot := 15, constantValue := 0 }, { name := "T_SHORT", type := .int, accessFlags := 25, slot := 16, constantValue := 0 }, { name := "T_INT", type := .int, accessFlags := 25, slot := 17, constantValue := 0 }, { name := "T_LONG", type := .int, accessFlags := 25, slot := 18, constantValue := 0 }, { name := "JLA", type := (.object "jdk/internal/access/JavaLangAccess"), accessFlags := 26, slot := 19, constantValue := 0 }, { name := "SOFT_MAX_ARRAY_LENGTH", type := .int, accessFlags := 25, slot := 20, constantValue := 0 }]
  methods := #[k16m0]
  instanceTypes := #[]
  staticTypes := #[(.object "jdk/internal/misc/Unsafe"), .boolean, .int, .int, .int, .int, .int, .int, .int, .int, .int, .int, .int, .int, .int, .int, .int, .int, .int, (.object "jdk/internal/access/JavaLangAccess"), .int]
  resolved := Array.replicate 378 none
  statics := none }

def pool17 : Array CpInfo := pool [(1, u "java/lang/Cloneable"), (0, .class_ 1), (0, u "java/lang/Object"), (0, .class_ 3)] 3

/-- java/lang/Cloneable -/
def k17 : Class := { plain "java/lang/Cloneable" (some 0) with
  accessFlags := 1537
  interfaces := #[]
  cf := some (fileOf pool17 2 #[] #[] 1537 4 #[] #[])
  fields := #[]
  methods := #[]
  instanceTypes := #[]
  staticTypes := #[]
  resolved := Array.replicate 8 none
  statics := none }

/-- the primitive byte -/
def k18 : Class := { plain "byte" none with kind := .primitive 'B', accessFlags := 0x411 }
/-- [B -/
def k19 : Class := { plain "[B" (some 0) with kind := .array 18 .byte, interfaces := #[17, 2], accessFlags := 1041 }

/-- the primitive char -/
def k20 : Class := { plain "char" none with kind := .primitive 'C', accessFlags := 0x411 }
/-- [C -/
def k21 : Class := { plain "[C" (some 0) with kind := .array 20 .char, interfaces := #[17, 2], accessFlags := 1041 }

/-- the primitive int -/
def k22 : Class := { plain "int" none with kind := .primitive 'I', accessFlags := 0x411 }
/-- [I -/
def k23 : Class := { plain "[I" (some 0) with kind := .array 22 .int, interfaces := #[17, 2], accessFlags := 1041 }

def heap : Heap := #[{ cls := 7, slots := #[.long 0, .int 1, .null, .int 0, .null, .int 0, .int 0], vm := .statics 7 },
  { cls := 15, slots := #[.null, .null, .null], vm := .statics 15 }]
def classes : Array Class := #[k0, k1, k2, k3, k4, k5, k6, k7, k8, k9, k10, k11, k12, k13, k14, k15, k16, k17, k18, k19, k20, k21, k22, k23]
def interned : List (Array UInt16 × Addr) := []
def slotsUsed : Nat := 10
def theMethod : MethodId := ⟨1, 2⟩
def args0 : Array Value := #[.int 1, .int 65, .int 66, .int 0]
def aboutOver (below : List Frame) : State where
  vm := { classes := classes, interned := interned.toArray }
  heap := heap
  slotsUsed := slotsUsed
  threads := #[{ frames := .invoking theMethod args0 :: below }]
def below0 : List Frame := [.native { method := ⟨0, 0⟩, args := #[] }]
def about1 : State := aboutOver below0
def p0 : Program := .bare "" "" ""
def e0 : Env := launch0.env 0 0 0
theorem w_frames : about1.frames = Frame.invoking theMethod args0 :: below0 := rfl
set_option maxRecDepth 65536 in
theorem w_args : argsFit about1.vm theMethod args0 = true := by decide +kernel
set_option maxRecDepth 65536 in
theorem w_heap : heapFits about1 = true := by decide +kernel
set_option maxRecDepth 65536 in
theorem w_runnable : about1.curStatus? = some .runnable := by decide +kernel
set_option maxRecDepth 65536 in
theorem w_alone : about1.alone = true := by decide +kernel
set_option maxRecDepth 65536 in
theorem w_named : about1.methodNamed? x = some theMethod := by decide +kernel
set_option maxRecDepth 65536 in
theorem w_hears : about1.hears theMethod below0 = true := by decide +kernel
set_option maxRecDepth 65536 in
theorem w_ripe : about1.ripe theMethod args0 below0 = true := by decide +kernel
theorem w_running : about1.status = .running := rfl
set_option maxRecDepth 65536 in
theorem w_room : about1.hasRoom e0.platform room_1 = true :=
  launch0.hasRoom_least _ room_1 (by decide +kernel) (by decide +kernel) (by decide +kernel) (by decide +kernel) (by decide +kernel) (by decide +kernel)
theorem allAtoms_all (ts : List Jvm.Cond) (a : Array Jvm.Value) (st : Jvm.State) : (allAtoms ts).before a st = ts.all (fun c => c.before a st) := by
  induction ts with
  | nil => rfl
  | cons c t ih =>
    show (Jvm.Cond.and c (allAtoms t)).before a st = _
    rw [Jvm.Cond.before_and, ih, List.all_cons]
def words1 : List Jvm.Cond := Jvm.Cond.code x code maxLocals ret :: tables_1
/-- a 'code' word, met by the world's own term for the bytes: nothing is compared byte by byte -/
theorem code_word {y : MethodName} {bytes : ByteArray} {mx : Nat} {rt : Option FieldType} {a : Array Value} {s : State} {m : MethodId} {meth : Method} {c : Code} (h1 : s.methodNamed? y = some m) (h2 : s.vm.method? m = some meth) (h3 : meth.code = some c) (h4 : c.code = bytes)
    (h5 : (c.maxLocals == mx && c.exceptionTable.isEmpty && decide (c.maxStack ≤ mostOperands) && decide (meth.sig.returnType = rt) && !meth.locks && decide (parseMethodDescriptor y.desc = some meth.sig)) = true) : (Jvm.Cond.code y bytes mx rt).before a s = true := by
  simp only [Bool.and_eq_true, beq_iff_eq, Bool.not_eq_true', decide_eq_true_eq] at h5
  obtain ⟨⟨⟨⟨⟨g1, g2⟩, g3⟩, g4⟩, g5⟩, g6⟩ := h5
  simp [Cond.before, Cond.holds, Cond.value, h1, h2, h3, h4, g1, g2, g3, g4, g5, g6]
def isCode : Jvm.Cond → Bool
  | .code _ _ _ _ => true
  | _ => false
theorem all_split {L : List Jvm.Cond} {P : Jvm.Cond → Bool} (h1 : L.all (fun c => isCode c || P c) = true) (h2 : ∀ c ∈ L.filter isCode, P c = true) : L.all P = true := by
  refine List.all_eq_true.mpr fun c hc => ?_
  have h := List.all_eq_true.mp h1 c hc
  rcases Bool.eq_false_or_eq_true (isCode c) with hi | hi
  · exact h2 c (List.mem_filter.mpr ⟨hc, hi⟩)
  · simpa [hi] using h
set_option maxRecDepth 65536 in
theorem w_c0 : (Jvm.Cond.code x code maxLocals ret).before args0 about1 = true := code_word (m := ⟨1, 2⟩) (meth := k1m2) (c := k1c2) (by decide +kernel) rfl rfl rfl (by decide +kernel)
set_option maxRecDepth 65536 in
theorem w_c1 : (Jvm.Cond.code ({ cls := "com/example/patience/patience/language/VariableEqualsPinLaw", name := "mk", desc := "(ICCC)Ljava/lang/String;" } : Jvm.MethodName) method_2_code (4 : Nat) (Option.some (Jvm.ClassFile.FieldType.object "java/lang/String"))).before args0 about1 = true := code_word (m := ⟨1, 1⟩) (meth := k1m1) (c := k1c1) (by decide +kernel) rfl rfl rfl (by decide +kernel)
set_option maxRecDepth 65536 in
theorem w_c2 : (Jvm.Cond.code ({ cls := "java/lang/String", name := "<init>", desc := "([C)V" } : Jvm.MethodName) jdk_42_method_3_code (2 : Nat) (Option.none : Option Jvm.ClassFile.FieldType)).before args0 about1 = true := code_word (m := ⟨7, 1⟩) (meth := k7m1) (c := k7c1) (by decide +kernel) rfl rfl rfl (by decide +kernel)
set_option maxRecDepth 65536 in
theorem w_c3 : (Jvm.Cond.code ({ cls := "java/lang/String", name := "<init>", desc := "([CIILjava/lang/Void;)V" } : Jvm.MethodName) jdk_42_method_149_code (6 : Nat) (Option.none : Option Jvm.ClassFile.FieldType)).before args0 about1 = true := code_word (m := ⟨7, 3⟩) (meth := k7m3) (c := k7c3) (by decide +kernel) rfl rfl rfl (by decide +kernel)
set_option maxRecDepth 65536 in
theorem w_c4 : (Jvm.Cond.code ({ cls := "java/lang/Object", name := "<init>", desc := "()V" } : Jvm.MethodName) object_method_1_code (1 : Nat) (Option.none : Option Jvm.ClassFile.FieldType)).before args0 about1 = true := code_word (m := ⟨0, 0⟩) (meth := k0m0) (c := k0c0) (by decide +kernel) rfl rfl rfl (by decide +kernel)
set_option maxRecDepth 65536 in
theorem w_c5 : (Jvm.Cond.code ({ cls := "com/example/patience/patience/language/Variable", name := "<init>", desc := "(Ljava/lang/String;)V" } : Jvm.MethodName) prog_67_method_1_code (2 : Nat) (Option.none : Option Jvm.ClassFile.FieldType)).before args0 about1 = true := code_word (m := ⟨9, 0⟩) (meth := k9m0) (c := k9c0) (by decide +kernel) rfl rfl rfl (by decide +kernel)
set_option maxRecDepth 65536 in
theorem w_c6 : (Jvm.Cond.code ({ cls := "java/util/Objects", name := "requireNonNull", desc := "(Ljava/lang/Object;Ljava/lang/String;)Ljava/lang/Object;" } : Jvm.MethodName) jdk_31_method_11_code (2 : Nat) (Option.some (Jvm.ClassFile.FieldType.object "java/lang/Object"))).before args0 about1 = true := code_word (m := ⟨10, 1⟩) (meth := k10m1) (c := k10c1) (by decide +kernel) rfl rfl rfl (by decide +kernel)
set_option maxRecDepth 65536 in
theorem w_c7 : (Jvm.Cond.code ({ cls := "com/example/patience/patience/language/Variable", name := "equals", desc := "(Ljava/lang/Object;)Z" } : Jvm.MethodName) prog_67_method_7_code (3 : Nat) (Option.some Jvm.ClassFile.FieldType.boolean)).before args0 about1 = true := code_word (m := ⟨9, 1⟩) (meth := k9m1) (c := k9c1) (by decide +kernel) rfl rfl rfl (by decide +kernel)
set_option maxRecDepth 65536 in
theorem w_c8 : (Jvm.Cond.code ({ cls := "java/lang/String", name := "equals", desc := "(Ljava/lang/Object;)Z" } : Jvm.MethodName) jdk_42_method_66_code (3 : Nat) (Option.some Jvm.ClassFile.FieldType.boolean)).before args0 about1 = true := code_word (m := ⟨7, 2⟩) (meth := k7m2) (c := k7c2) (by decide +kernel) rfl rfl rfl (by decide +kernel)
set_option maxRecDepth 65536 in
theorem w_c9 : (Jvm.Cond.code ({ cls := "java/lang/StringUTF16", name := "compress", desc := "([CII)[B" } : Jvm.MethodName) jdk_52_method_16_code (6 : Nat) (Option.some (Jvm.ClassFile.FieldType.array Jvm.ClassFile.FieldType.byte))).before args0 about1 = true := code_word (m := ⟨11, 2⟩) (meth := k11m2) (c := k11c2) (by decide +kernel) rfl rfl rfl (by decide +kernel)
set_option maxRecDepth 65536 in
theorem w_c10 : (Jvm.Cond.code ({ cls := "java/lang/StringUTF16", name := "compress", desc := "([CI[BII)I" } : Jvm.MethodName) jdk_52_method_21_code (7 : Nat) (Option.some Jvm.ClassFile.FieldType.int)).before args0 about1 = true := code_word (m := ⟨11, 3⟩) (meth := k11m3) (c := k11c3) (by decide +kernel) rfl rfl rfl (by decide +kernel)
set_option maxRecDepth 65536 in
theorem w_c11 : (Jvm.Cond.code ({ cls := "java/lang/StringUTF16", name := "coderFromArrayLen", desc := "([BI)B" } : Jvm.MethodName) jdk_52_method_15_code (2 : Nat) (Option.some Jvm.ClassFile.FieldType.byte)).before args0 about1 = true := code_word (m := ⟨11, 1⟩) (meth := k11m1) (c := k11c1) (by decide +kernel) rfl rfl rfl (by decide +kernel)
set_option maxRecDepth 65536 in
theorem w_c12 : (Jvm.Cond.code ({ cls := "java/lang/StringLatin1", name := "equals", desc := "([B[B)Z" } : Jvm.MethodName) jdk_43_method_13_code (3 : Nat) (Option.some Jvm.ClassFile.FieldType.boolean)).before args0 about1 = true := code_word (m := ⟨12, 1⟩) (meth := k12m1) (c := k12c1) (by decide +kernel) rfl rfl rfl (by decide +kernel)
set_option maxRecDepth 65536 in
theorem w_c13 : (Jvm.Cond.code ({ cls := "com/example/patience/patience/language/Action", name := "<init>", desc := "(Ljava/lang/String;)V" } : Jvm.MethodName) prog_47_method_1_code (2 : Nat) (Option.none : Option Jvm.ClassFile.FieldType)).before args0 about1 = true := code_word (m := ⟨14, 0⟩) (meth := k14m0) (c := k14c0) (by decide +kernel) rfl rfl rfl (by decide +kernel)
set_option maxRecDepth 65536 in
theorem w_c14 : (Jvm.Cond.code ({ cls := "java/lang/Record", name := "<init>", desc := "()V" } : Jvm.MethodName) jdk_30_method_1_code (1 : Nat) (Option.none : Option Jvm.ClassFile.FieldType)).before args0 about1 = true := code_word (m := ⟨13, 0⟩) (meth := k13m0) (c := k13c0) (by decide +kernel) rfl rfl rfl (by decide +kernel)
def codes1 : List Jvm.Cond := [Jvm.Cond.code x code maxLocals ret, Jvm.Cond.code ({ cls := "com/example/patience/patience/language/VariableEqualsPinLaw", name := "mk", desc := "(ICCC)Ljava/lang/String;" } : Jvm.MethodName) method_2_code (4 : Nat) (Option.some (Jvm.ClassFile.FieldType.object "java/lang/String")), Jvm.Cond.code ({ cls := "java/lang/String", name := "<init>", desc := "([C)V" } : Jvm.MethodName) jdk_42_method_3_code (2 : Nat) (Option.none : Option Jvm.ClassFile.FieldType), Jvm.Cond.code ({ cls := "java/lang/String", name := "<init>", desc := "([CIILjava/lang/Void;)V" } : Jvm.MethodName) jdk_42_method_149_code (6 : Nat) (Option.none : Option Jvm.ClassFile.FieldType), Jvm.Cond.code ({ cls := "java/lang/Object", name := "<init>", desc := "()V" } : Jvm.MethodName) object_method_1_code (1 : Nat) (Option.none : Option Jvm.ClassFile.FieldType), Jvm.Cond.code ({ cls := "com/example/patience/patience/language/Variable", name := "<init>", desc := "(Ljava/lang/String;)V" } : Jvm.MethodName) prog_67_method_1_code (2 : Nat) (Option.none : Option Jvm.ClassFile.FieldType), Jvm.Cond.code ({ cls := "java/util/Objects", name := "requireNonNull", desc := "(Ljava/lang/Object;Ljava/lang/String;)Ljava/lang/Object;" } : Jvm.MethodName) jdk_31_method_11_code (2 : Nat) (Option.some (Jvm.ClassFile.FieldType.object "java/lang/Object")), Jvm.Cond.code ({ cls := "com/example/patience/patience/language/Variable", name := "equals", desc := "(Ljava/lang/Object;)Z" } : Jvm.MethodName) prog_67_method_7_code (3 : Nat) (Option.some Jvm.ClassFile.FieldType.boolean), Jvm.Cond.code ({ cls := "java/lang/String", name := "equals", desc := "(Ljava/lang/Object;)Z" } : Jvm.MethodName) jdk_42_method_66_code (3 : Nat) (Option.some Jvm.ClassFile.FieldType.boolean), Jvm.Cond.code ({ cls := "java/lang/StringUTF16", name := "compress", desc := "([CII)[B" } : Jvm.MethodName) jdk_52_method_16_code (6 : Nat) (Option.some (Jvm.ClassFile.FieldType.array Jvm.ClassFile.FieldType.byte)), Jvm.Cond.code ({ cls := "java/lang/StringUTF16", name := "compress", desc := "([CI[BII)I" } : Jvm.MethodName) jdk_52_method_21_code (7 : Nat) (Option.some Jvm.ClassFile.FieldType.int), Jvm.Cond.code ({ cls := "java/lang/StringUTF16", name := "coderFromArrayLen", desc := "([BI)B" } : Jvm.MethodName) jdk_52_method_15_code (2 : Nat) (Option.some Jvm.ClassFile.FieldType.byte), Jvm.Cond.code ({ cls := "java/lang/StringLatin1", name := "equals", desc := "([B[B)Z" } : Jvm.MethodName) jdk_43_method_13_code (3 : Nat) (Option.some Jvm.ClassFile.FieldType.boolean), Jvm.Cond.code ({ cls := "com/example/patience/patience/language/Action", name := "<init>", desc := "(Ljava/lang/String;)V" } : Jvm.MethodName) prog_47_method_1_code (2 : Nat) (Option.none : Option Jvm.ClassFile.FieldType), Jvm.Cond.code ({ cls := "java/lang/Record", name := "<init>", desc := "()V" } : Jvm.MethodName) jdk_30_method_1_code (1 : Nat) (Option.none : Option Jvm.ClassFile.FieldType)]
set_option maxRecDepth 65536 in
theorem codes_eq : words1.filter isCode = codes1 := rfl
theorem w_codes : ∀ c ∈ words1.filter isCode, c.before args0 about1 = true := by
  rw [codes_eq]
  intro c hc
  simp only [codes1, List.mem_cons, List.not_mem_nil, or_false] at hc
  rcases hc with rfl | rfl | rfl | rfl | rfl | rfl | rfl | rfl | rfl | rfl | rfl | rfl | rfl | rfl | rfl
  · exact w_c0
  · exact w_c1
  · exact w_c2
  · exact w_c3
  · exact w_c4
  · exact w_c5
  · exact w_c6
  · exact w_c7
  · exact w_c8
  · exact w_c9
  · exact w_c10
  · exact w_c11
  · exact w_c12
  · exact w_c13
  · exact w_c14
set_option maxRecDepth 65536 in
theorem w_t1 : (words1.take 24).all (fun c => isCode c || c.before args0 about1) = true := by decide +kernel
set_option maxRecDepth 65536 in
theorem w_t2 : ((words1.drop 24).take 24).all (fun c => isCode c || c.before args0 about1) = true := by decide +kernel
set_option maxRecDepth 65536 in
theorem w_t3 : (((words1.drop 24).drop 24).take 24).all (fun c => isCode c || c.before args0 about1) = true := by decide +kernel
set_option maxRecDepth 65536 in
theorem w_t4 : (((words1.drop 24).drop 24).drop 24).all (fun c => isCode c || c.before args0 about1) = true := by decide +kernel
theorem w_tables : (allAtoms (Jvm.Cond.code x code maxLocals ret :: tables_1)).before args0 about1 = true := by
  rw [allAtoms_all]
  show words1.all (fun c => c.before args0 about1) = true
  refine all_split ?_ w_codes
  rw [← List.take_append_drop 24 words1, List.all_append, w_t1, ← List.take_append_drop 24 (words1.drop 24), List.all_append, w_t2, ← List.take_append_drop 24 ((words1.drop 24).drop 24), List.all_append, w_t3, w_t4]
  rfl
set_option maxRecDepth 65536 in
theorem w_rest : rest_1_c.before args0 about1 = true := by decide +kernel
set_option maxRecDepth 65536 in
theorem w_case : (Jvm.Cond.and given_1 narrow_1).before args0 about1 = true := by decide +kernel
set_option maxRecDepth 65536 in
theorem w_consts : constsHeld consts_1 about1 := Jvm.Lit.constsHeldB_iff.mp (by decide +kernel)
theorem w_applies : (headSpec (Jvm.Cond.code x code maxLocals ret :: tables_1) room_1).applies x e0.platform about1 = true :=
  (Spec.applies_iff w_frames).mpr ⟨w_running, w_runnable, w_alone, w_named, w_hears, w_ripe, w_room, w_tables⟩
theorem atStart : AtStart classFile x code maxLocals ret World_1 tables_1 room_1 Calls_1 rest_1 Pre_1 launch0 p0 e0 about1 theMethod args0 below0 :=
  ⟨lists_1, trivial, launch0.admits_env _ _ _, launch0.least_env, fairChoices_fair.cas, fairChoices_fair.clock, w_frames, w_args, w_heap, w_applies, ⟨w_consts, trivial⟩, w_rest, w_case⟩
end start1
theorem witness_1 : WitnessClaimed_1 := ⟨start1.p0, start1.e0, start1.about1, start1.theMethod, start1.args0, start1.below0, start1.atStart⟩
end Jvm.Pilot.@@N@@
