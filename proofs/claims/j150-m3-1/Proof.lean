import JvmDerived
import JvmDerived.Pilot.@@N@@Statement
import JvmDerived.Pilot.@@N@@Code
set_option linter.unusedVariables false
set_option linter.unusedSimpArgs false
namespace Jvm.Ow
open Sem ClassFile Op Lib Jvm.Stand Jvm.Free Jvm.LawKit Jvm.RoadKit
def WideEnd (s : State) (o : Outcome) (t : State) (L : List Loc) (k n : Nat) : Prop :=
  (∃ v : Option Value, o = Outcome.returned v) ∧ s.Warmed39 t.vm ∧ (∀ (j : Nat) (p : Array UInt16 × Addr), s.vm.interned.size ≤ j → t.vm.interned[j]? = some p → s.heap.size ≤ p.2 ∧ p.2 < t.heap.size) ∧ s.sameButNew { t with vm := s.vm } L k n
def EndF (wd : Bool) (s : State) (o : Outcome) (t : State) (L : List Loc) (k n : Nat) : Prop := match wd with
  | true => WideEnd s o t L k n
  | false => FrameEnd s o t L k n
theorem EndF.of {wd : Bool} {s : State} {o : Outcome} {t : State} {L : List Loc} {k n : Nat} (h : FrameEnd s o t L k n) : EndF wd s o t L k n := by
  cases wd
  · exact h
  · exact wide h
def Cx (p : Program) (l : Launch) (e : Env) (R : Room) (m : MethodId) (args : Array Value) (below : List Frame) (meth : Method) (c : Code) (Z : State) (y : MethodName) (bytes : ByteArray) (ml : Nat) (ret : Option FieldType) (n0 : Nat) (wd : Bool) (F : Outcome → State → List Loc → Prop) (T : State) (h : Heap) (cells slots : Nat) : Prop :=
  ∃ s locs, Stand p l e R s m args below meth c T locs cells slots ∧ p.tables.exec = Jvm.exec ∧ c.code = bytes ∧ c.maxLocals = ml ∧ Z.Warmed39 s.vm ∧ s.vm.findClass y.cls = some m.cls ∧ meth.name = y.name ∧ meth.sig.returnType = ret ∧ meth.locks = false ∧ T.heap = h ∧ Fr n0 locs ∧ n0 ≤ s.heap.size ∧ ∀ o t L, h.size ≤ t.heap.size → EndF wd s o t L R.cells R.slots → F o t L
def Go (p : Program) (e : Env) (below : List Frame) (F : Outcome → State → List Loc → Prop) (n0 : Nat) (Q : Option Value → Heap → Prop) (T : State) (f : JFrame) : Prop :=
  ∃ s₂ o, Steps p.tables e below (T.setTop f) s₂ ∧ s₂.status = .running ∧ Ended s₂ below o ∧ ∃ v L, o = .returned v ∧ (Q v s₂.heap ∧ Fr n0 L ∧ n0 ≤ s₂.heap.size) ∧ F o s₂ L
def Ctr (l : Launch) (Z : State) (y : MethodName) (bytes : ByteArray) (ml : Nat) (ret : Option FieldType) (R : Room) (as' : Array Value) (h : Heap) (n0 : Nat) (Q : Option Value → Heap → Prop) : Prop :=
  ∀ ws : List Jvm.Cond, MetFree l y (head1 (Jvm.Cond.code y bytes ml ret :: ws) R) (fun a U => a = as' ∧ Z.Warmed39 U.vm ∧ U.heap = h) (fun _ _ _ _ _ => True) (fun _ U o U' => ∃ v L, o = .returned v ∧ ((Q v U'.heap ∧ h.size ≤ U'.heap.size) ∧ Fr n0 L) ∧ FrameEnd U o U' L R.cells R.slots)
section Layer
variable {p : Program} {l : Launch} {e : Env} {R : Room} {m : MethodId} {args : Array Value} {below : List Frame} {meth : Method} {c : Code} {T T' : State} {cells slots : Nat} {Z : State} {a0 : Array Value} {h : Heap} {y : MethodName} {bytes : ByteArray} {ml n0 : Nat} {ret : Option FieldType} {wd : Bool} {F : Outcome → State → List Loc → Prop} {Q : Option Value → Heap → Prop} {pc pc' : Nat} {L L' : Array Slot} {S : List Value}
theorem Ctr.body {as' : Array Value} (hpl : plainFor y = true) (hn : n0 ≤ h.size) (ef : ∀ m, entryFrame m as' ml = mkF m 0 L [])
    (k : ∀ (p : Program) (e : Env) (F : Outcome → State → List Loc → Prop) (m : MethodId) (below : List Frame) (meth : Method) (c : Code) (T : State), Cx p l e R m as' below meth c Z y bytes ml ret n0 false F T h 0 0 → Go p e below F n0 Q T (mkF m 0 L [])) : Ctr l Z y bytes ml ret R as' h n0 Q := by
  intro ws
  refine MetFree.of_bodySF hpl hisR ?_
  intro p e s m args below meth c s₁ Bd hml0 hP hK
  obtain ⟨rfl, hZ, hh⟩ := hP
  obtain ⟨s₂, o, g1, g2, g3, v, L9, g4, ⟨g5, g6, -⟩, g7⟩ := k p e (fun o t L => FrameEnd s o t L R.cells R.slots) m below meth c s₁ ⟨s, [], Stand.of_body Bd, Bd.exec, Bd.bytes, hml0, hZ, findClass_of_methodNamed Bd.named, (name_of_methodNamed Bd.named Bd.method).1, Bd.returns, Bd.notSynchronized, by rw [← hh, Bd.state]; rfl, Fr.nil n0, by rw [hh]; exact hn, fun _ _ _ _ q => q⟩
  rw [ef m]
  exact ⟨s₂, o, g1, g2, g3, v, L9, g4, ⟨⟨g5, by rw [← hh]; exact g7.2.2.2.1⟩, g6⟩, g7⟩
theorem Go.via {f f' : JFrame} (k : Go p e below F n0 Q T' f') (hs : ∀ t, Steps p.tables e below (T'.setTop f') t → Steps p.tables e below (T.setTop f) t) : Go p e below F n0 Q T f := by
  obtain ⟨s₂, o, h1, h2⟩ := k; exact ⟨s₂, o, hs _ h1, h2⟩
theorem Cx.size (C : Cx p l e R m args below meth c Z y bytes ml ret n0 wd F T h cells slots) : n0 ≤ h.size := by
  obtain ⟨s, locs, X, -, -, -, -, -, -, -, -, rfl, -, hn, -⟩ := C
  exact Nat.le_trans hn X.same.2.1
theorem Cx.iloadN (C : Cx p l e R m args below meth c Z y bytes ml ret n0 wd F T h cells slots) {k : Fin 4} {v : Int32} (hd : decode bytes pc = .ok (.iload_n k, 1)) (hp : pc + 1 = pc') (hl : L[k.val]? = some (.val (.int v))) (K : Go p e below F n0 Q T (mkF m pc' L (.int v :: S))) : Go p e below F n0 Q T (mkF m pc L S) := by
  obtain ⟨s, locs, X, hx, rfl, -⟩ := C; subst hp
  exact K.via fun t k => XS.iloadN X.here hx rfl hd hl k
theorem Cx.istoreN (C : Cx p l e R m args below meth c Z y bytes ml ret n0 wd F T h cells slots) {k : Fin 4} {x : Int32} (hd : decode bytes pc = .ok (.istore_n k, 1)) (hp : pc + 1 = pc') (hl : storeLocals L k.val (.int x) = some L') (K : Go p e below F n0 Q T (mkF m pc' L' S)) : Go p e below F n0 Q T (mkF m pc L (.int x :: S)) := by
  obtain ⟨s, locs, X, hx, rfl, -⟩ := C; subst hp
  exact K.via fun t k => XS.istoreN X.here hx rfl hd rfl hl k
theorem Cx.istoreNV (C : Cx p l e R m args below meth c Z y bytes ml ret n0 wd F T h cells slots) {k : Fin 4} {x : Int32} (Lf : Int32 → Array Slot) (hd : decode bytes pc = .ok (.istore_n k, 1)) (hp : pc + 1 = pc') (hl : ∀ v, storeLocals L k.val (.int v) = some (Lf v)) (K : ∀ v, v = x → Go p e below F n0 Q T (mkF m pc' (Lf v) S)) : Go p e below F n0 Q T (mkF m pc L (.int x :: S)) :=
  C.istoreN hd hp (hl x) (K x rfl)
theorem Cx.iconst (C : Cx p l e R m args below meth c Z y bytes ml ret n0 wd F T h cells slots) {i : Int} (v : Int32) (hd : decode bytes pc = .ok (.iconst i, 1)) (hp : pc + 1 = pc') (hv : Int32.ofInt i = v) (K : Go p e below F n0 Q T (mkF m pc' L (.int v :: S))) : Go p e below F n0 Q T (mkF m pc L S) := by
  obtain ⟨s, locs, X, hx, rfl, -⟩ := C; subst hp
  exact K.via fun t k => XT.iconstV X.here hx rfl v hd hv k
theorem Cx.bipush (C : Cx p l e R m args below meth c Z y bytes ml ret n0 wd F T h cells slots) {i : Int} (v : Int32) (hd : decode bytes pc = .ok (.bipush i, 2)) (hp : pc + 2 = pc') (hv : (Int8.ofInt i).toInt32 = v) (K : Go p e below F n0 Q T (mkF m pc' L (.int v :: S))) : Go p e below F n0 Q T (mkF m pc L S) := by
  obtain ⟨s, locs, X, hx, rfl, -⟩ := C; subst hp
  exact K.via fun t k => XT.bipushV X.here hx rfl v hd hv k
theorem Cx.iadd (C : Cx p l e R m args below meth c Z y bytes ml ret n0 wd F T h cells slots) {x z : Int32} (hd : decode bytes pc = .ok (.iadd, 1)) (hp : pc + 1 = pc')  (K : Go p e below F n0 Q T (mkF m pc' L (.int (x + z) :: S))) : Go p e below F n0 Q T (mkF m pc L (.int z :: .int x :: S)) := by
  obtain ⟨s, locs, X, hx, rfl, -⟩ := C; subst hp
  exact K.via fun t k => XS.iadd X.here hx rfl hd rfl k
theorem Cx.goto (C : Cx p l e R m args below meth c Z y bytes ml ret n0 wd F T h cells slots) {o : Int} (hd : decode bytes pc = .ok (.goto o, 3)) (ho : 0 ≤ (pc : Int) + o) (hp : ((pc : Int) + o).toNat = pc') (K : Go p e below F n0 Q T (mkF m pc' L S)) : Go p e below F n0 Q T (mkF m pc L S) := by
  obtain ⟨s, locs, X, hx, rfl, -⟩ := C
  exact K.via fun t k => XS.goto X.here hx rfl rfl hd ho hp k
theorem Cx.icmp_eq (C : Cx p l e R m args below meth c Z y bytes ml ret n0 wd F T h cells slots) {x z : Int32} {o : Int} {py pn : Nat} (hd : decode bytes pc = .ok (.if_icmp .eq o, 3)) (ho : 0 ≤ (pc : Int) + o) (hy : ((pc : Int) + o).toNat = py) (hn : pc + 3 = pn) (K1 : x = z → Go p e below F n0 Q T (mkF m py L S)) (K2 : ¬ x = z → Go p e below F n0 Q T (mkF m pn L S)) : Go p e below F n0 Q T (mkF m pc L (.int z :: .int x :: S)) := by
  obtain ⟨s, locs, X, hx, rfl, -⟩ := C; subst hn
  by_cases q : x = z
  · exact (K1 q).via fun t k => XS.icmpYes X.here hx rfl rfl hd rfl (XT.ii_eq_t q) ho hy k
  · exact (K2 q).via fun t k => XS.icmpNo X.here hx rfl hd rfl (XT.ii_eq_f q) k
theorem Cx.if_eq (C : Cx p l e R m args below meth c Z y bytes ml ret n0 wd F T h cells slots) {x : Int32} {o : Int} {py pn : Nat} (hd : decode bytes pc = .ok (.ifCond .eq o, 3)) (ho : 0 ≤ (pc : Int) + o) (hy : ((pc : Int) + o).toNat = py) (hn : pc + 3 = pn) (K1 : x = (0 : Int32) → Go p e below F n0 Q T (mkF m py L S)) (K2 : ¬ x = (0 : Int32) → Go p e below F n0 Q T (mkF m pn L S)) : Go p e below F n0 Q T (mkF m pc L (.int x :: S)) := by
  obtain ⟨s, locs, X, hx, rfl, -⟩ := C; subst hn
  by_cases q : x = (0 : Int32)
  · exact (K1 q).via fun t k => XS.ifYes X.here hx rfl rfl hd rfl (XT.i0_eq_t q) ho hy k
  · exact (K2 q).via fun t k => XS.ifNo X.here hx rfl hd rfl (XT.i0_eq_f q) k
theorem Cx.icmp_ne (C : Cx p l e R m args below meth c Z y bytes ml ret n0 wd F T h cells slots) {x z : Int32} {o : Int} {py pn : Nat} (hd : decode bytes pc = .ok (.if_icmp .ne o, 3)) (ho : 0 ≤ (pc : Int) + o) (hy : ((pc : Int) + o).toNat = py) (hn : pc + 3 = pn) (K1 : ¬ x = z → Go p e below F n0 Q T (mkF m py L S)) (K2 : x = z → Go p e below F n0 Q T (mkF m pn L S)) : Go p e below F n0 Q T (mkF m pc L (.int z :: .int x :: S)) := by
  obtain ⟨s, locs, X, hx, rfl, -⟩ := C; subst hn
  by_cases q : x = z
  · exact (K2 q).via fun t k => XS.icmpNo X.here hx rfl hd rfl (XT.ii_ne_f q) k
  · exact (K1 q).via fun t k => XS.icmpYes X.here hx rfl rfl hd rfl (XT.ii_ne_t q) ho hy k
theorem Cx.if_ne (C : Cx p l e R m args below meth c Z y bytes ml ret n0 wd F T h cells slots) {x : Int32} {o : Int} {py pn : Nat} (hd : decode bytes pc = .ok (.ifCond .ne o, 3)) (ho : 0 ≤ (pc : Int) + o) (hy : ((pc : Int) + o).toNat = py) (hn : pc + 3 = pn) (K1 : ¬ x = (0 : Int32) → Go p e below F n0 Q T (mkF m py L S)) (K2 : x = (0 : Int32) → Go p e below F n0 Q T (mkF m pn L S)) : Go p e below F n0 Q T (mkF m pc L (.int x :: S)) := by
  obtain ⟨s, locs, X, hx, rfl, -⟩ := C; subst hn
  by_cases q : x = (0 : Int32)
  · exact (K2 q).via fun t k => XS.ifNo X.here hx rfl hd rfl (XT.i0_ne_f q) k
  · exact (K1 q).via fun t k => XS.ifYes X.here hx rfl rfl hd rfl (XT.i0_ne_t q) ho hy k
theorem Cx.icmp_lt (C : Cx p l e R m args below meth c Z y bytes ml ret n0 wd F T h cells slots) {x z : Int32} {o : Int} {py pn : Nat} (hd : decode bytes pc = .ok (.if_icmp .lt o, 3)) (ho : 0 ≤ (pc : Int) + o) (hy : ((pc : Int) + o).toNat = py) (hn : pc + 3 = pn) (K1 : x < z → Go p e below F n0 Q T (mkF m py L S)) (K2 : ¬ x < z → Go p e below F n0 Q T (mkF m pn L S)) : Go p e below F n0 Q T (mkF m pc L (.int z :: .int x :: S)) := by
  obtain ⟨s, locs, X, hx, rfl, -⟩ := C; subst hn
  by_cases q : x < z
  · exact (K1 q).via fun t k => XS.icmpYes X.here hx rfl rfl hd rfl (XT.ii_lt_t q) ho hy k
  · exact (K2 q).via fun t k => XS.icmpNo X.here hx rfl hd rfl (XT.ii_lt_f q) k
theorem Cx.icmp_gt (C : Cx p l e R m args below meth c Z y bytes ml ret n0 wd F T h cells slots) {x z : Int32} {o : Int} {py pn : Nat} (hd : decode bytes pc = .ok (.if_icmp .gt o, 3)) (ho : 0 ≤ (pc : Int) + o) (hy : ((pc : Int) + o).toNat = py) (hn : pc + 3 = pn) (K1 : z < x → Go p e below F n0 Q T (mkF m py L S)) (K2 : ¬ z < x → Go p e below F n0 Q T (mkF m pn L S)) : Go p e below F n0 Q T (mkF m pc L (.int z :: .int x :: S)) := by
  obtain ⟨s, locs, X, hx, rfl, -⟩ := C; subst hn
  by_cases q : z < x
  · exact (K1 q).via fun t k => XS.icmpYes X.here hx rfl rfl hd rfl (XT.ii_gt_t q) ho hy k
  · exact (K2 q).via fun t k => XS.icmpNo X.here hx rfl hd rfl (XT.ii_gt_f q) k
theorem Cx.icmp_le (C : Cx p l e R m args below meth c Z y bytes ml ret n0 wd F T h cells slots) {x z : Int32} {o : Int} {py pn : Nat} (hd : decode bytes pc = .ok (.if_icmp .le o, 3)) (ho : 0 ≤ (pc : Int) + o) (hy : ((pc : Int) + o).toNat = py) (hn : pc + 3 = pn) (K1 : ¬ z < x → Go p e below F n0 Q T (mkF m py L S)) (K2 : z < x → Go p e below F n0 Q T (mkF m pn L S)) : Go p e below F n0 Q T (mkF m pc L (.int z :: .int x :: S)) := by
  obtain ⟨s, locs, X, hx, rfl, -⟩ := C; subst hn
  by_cases q : z < x
  · exact (K2 q).via fun t k => XS.icmpNo X.here hx rfl hd rfl (XT.ii_le_f q) k
  · exact (K1 q).via fun t k => XS.icmpYes X.here hx rfl rfl hd rfl (XT.ii_le_t q) ho hy k
theorem Cx.done (C : Cx p l e R m args below meth c Z y bytes ml ret n0 wd F T h cells slots) {v : Option Value} (hv : ret = none → v = none) (hc : cells ≤ R.cells) (hs : slots ≤ R.slots) (hq : Q v h) {f : JFrame}
    (k : ∀ s locs fs, Stand p l e R s m args below meth c T locs cells slots → (∀ (f : JFrame) (acts : List Action), f.method = m → f.locked = none → f.entered = [] → (doReturn e (T.setTop f) acts v).1 = T.setFrames fs) → Steps p.tables e below (T.setTop f) (T.setFrames fs)) : Go p e below F n0 Q T f := by
  have hz := C.size
  obtain ⟨s, locs, X, hx, rfl, rfl, hZ, hown, hnm, rfl, hlk, rfl, N, hn, hF⟩ := C
  obtain ⟨fs, hr, hrun, hended, hW, hsame⟩ := X.leave (v := v) hv
  exact ⟨_, _, k s locs fs X hr, hrun, hended, v, locs, rfl, ⟨hq, N, hz⟩, hF _ _ _ (Nat.le_refl _) (EndF.of ⟨⟨v, rfl⟩, hW, hsame.mono hc hs⟩)⟩
theorem Cx.retN (C : Cx p l e R m args below meth c Z y bytes ml ret n0 wd F T h cells slots) {z w : Int32} {t : FieldType} (hd : decode bytes pc = .ok (.ireturn, 1)) (hret : ret = some t) (ht : t = .boolean ∨ t = .byte ∨ t = .char ∨ t = .short) (hc : cells ≤ R.cells) (hs : slots ≤ R.slots) (hw : nar t z = w) (hq : Q (some (.int w)) h) : Go p e below F n0 Q T (mkF m pc L (.int z :: S)) := by
  subst hw
  refine C.done (fun q => by rw [hret] at q; cases q) hc hs hq fun s locs fs X hr => ?_
  obtain ⟨_, _, -, hx, rfl, -, -, -, -, rfl, -⟩ := C
  exact Jvm.RoadKit.retN X hx hret ht hd hr
theorem Cx.callS (C : Cx p l e R m args below meth c Z y bytes ml ret n0 wd F T h cells slots) {idx : Nat} {y' : MethodName} {bytes' : ByteArray} {ml' : Nat} {ret' : Option FieldType} {R' : Room} {Q' : Option Value → Heap → Prop} {argsL : List Value} (w1 : (Jvm.Cond.methodLink y.cls idx y').before a0 Z = true) (w2 : (Jvm.Cond.static y').before a0 Z = true) (w3 : (Jvm.Cond.initialized y'.cls).before a0 Z = true) (w4 : (Jvm.Cond.code y' bytes' ml' ret').before a0 Z = true)
    (hy : y'.cls ≠ "java/lang/invoke/MethodHandle" ∧ y'.cls ≠ "java/lang/invoke/VarHandle") (M : Ctr l Z y' bytes' ml' ret' R' argsL.toArray h n0 Q') {ps : List FieldType} {rt : Option FieldType} (hpd : parseMethodDescriptor y'.desc = some ⟨ps, rt⟩) (hlen : argsL.length = ps.length)
    (W : Nat) (hf : R'.frames + 1 ≤ R.frames) (hl : W + (ml' + 11) + R'.locals ≤ R.locals) (hc : cells + R'.cells ≤ R.cells) (hs : slots + R'.slots ≤ R.slots) {rest : List Value} (hst : S = argsL.reverse ++ rest) (hsz : L.size = ml) (hW : (rest.map fun v => v.category).sum ≤ W)
    (hd : decode bytes pc = .ok (.invokestatic idx, 3)) (hp : pc + 3 = pc') (K : ∀ v T' h', Cx p l e R m args below meth c Z y bytes ml ret n0 wd F T' h' (cells + R'.cells) (slots + R'.slots) → Q' v h' → Go p e below F n0 Q T' (mkF m pc' L (v.toList ++ rest))) : Go p e below F n0 Q T (mkF m pc L S) := by
  obtain ⟨s, locs, X, hx, rfl, rfl, hZ, hown, hnm, hr, hlk, eT, N, hn, hF⟩ := C; subst hp
  obtain ⟨v, _, ⟨T', L', k', n'⟩, -, X', ⟨Lc, hQ, e1, e2, e3⟩, st⟩ := Jvm.LawKit.callS X hx (y := y') hown (mvT hZ w1) (mvT hZ w2) (mvT hZ w3) (mvT hZ w4) hy (backOf (W := W) (Q := fun v h9 L => (Q' v h9 ∧ h.size ≤ h9.size) ∧ Fr n0 L) (M []) hZ w4 w3 hf hl) (g := mkF m pc L S) rfl hsz (argsL := argsL) (rest := rest) (lenOf hpd hlen) hst (by show 2 * 0 + _ ≤ _; omega) hd (fun _ _ => ⟨rfl, eT, hc, hs⟩)
  dsimp only [Pt.U, Pt.locs, Pt.cells, Pt.slots] at X' e1 e2 e3 st hQ
  subst e1 e2 e3
  exact (K v T' T'.heap ⟨s, _, X', hx, rfl, rfl, hZ, hown, hnm, hr, hlk, rfl, N.app hQ.2, hn, fun o t L q => hF o t L (Nat.le_trans hQ.1.2 q)⟩ hQ.1.1).via st
theorem Cx.callSP (C : Cx p l e R m args below meth c Z y bytes ml ret n0 wd F T h cells slots) {idx : Nat} {y' : MethodName} {bytes' : ByteArray} {ml' : Nat} {ret' : Option FieldType} {R' : Room} {argsL : List Value} {w : Value} (w1 : (Jvm.Cond.methodLink y.cls idx y').before a0 Z = true) (w2 : (Jvm.Cond.static y').before a0 Z = true) (w3 : (Jvm.Cond.initialized y'.cls).before a0 Z = true) (w4 : (Jvm.Cond.code y' bytes' ml' ret').before a0 Z = true)
    (hy : y'.cls ≠ "java/lang/invoke/MethodHandle" ∧ y'.cls ≠ "java/lang/invoke/VarHandle") (M : Ctr l Z y' bytes' ml' ret' R' argsL.toArray h n0 (fun v h' => v = some w ∧ h' = h)) {ps : List FieldType} {rt : Option FieldType} (hpd : parseMethodDescriptor y'.desc = some ⟨ps, rt⟩) (hlen : argsL.length = ps.length)
    (W : Nat) (hf : R'.frames + 1 ≤ R.frames) (hl : W + (ml' + 11) + R'.locals ≤ R.locals) (hc : R'.cells = 0) (hs : R'.slots = 0) (hcc : cells ≤ R.cells) (hss : slots ≤ R.slots) {rest : List Value} (hst : S = argsL.reverse ++ rest) (hsz : L.size = ml) (hW : (rest.map fun v => v.category).sum ≤ W)
    (hd : decode bytes pc = .ok (.invokestatic idx, 3)) (hp : pc + 3 = pc') (K : ∀ T', Cx p l e R m args below meth c Z y bytes ml ret n0 wd F T' h cells slots → Go p e below F n0 Q T' (mkF m pc' L (w :: rest))) : Go p e below F n0 Q T (mkF m pc L S) :=
  C.callS w1 w2 w3 w4 hy M hpd hlen W hf hl (by omega) (by omega) hst hsz hW hd hp fun v T' h' C' hq => by
    obtain ⟨rfl, hh⟩ := hq
    have hh := hh.symm; subst hh
    rw [hc, hs] at C'
    exact K T' C'
end Layer
end Jvm.Ow
namespace Jvm.Pilot.@@N@@
open Jvm Jvm.ClassFile Sem Op Lib Jvm.Free Jvm.Stand Jvm.LawKit Jvm.RoadKit Bundle Jvm.Ow Jvm.Pilot.@@N@@.Jvm.D
theorem own_eqite {α : Type} {P : Prop} [Decidable P] {u a b : α} : (u = if P then a else b) ↔ ((P ∧ u = a) ∨ (¬ P ∧ u = b)) := by by_cases h : P <;> simp [h]
theorem own_iteeq {α : Type} {P : Prop} [Decidable P] {u a b : α} : ((if P then a else b) = u) ↔ ((P ∧ a = u) ∨ (¬ P ∧ b = u)) := by by_cases h : P <;> simp [h]

def f1 (i0 : Int32) : Int32 := if i0 < (65 : Int32) then if i0 = (95 : Int32) then (1 : Int32) else ((0 : Int32)) else (if (90 : Int32) < i0 then if i0 = (95 : Int32) then (1 : Int32) else ((0 : Int32)) else ((1 : Int32)))
theorem pn1 : plainName "com/example/nestor/nestor/lang/Identifiers" = true := by first | (simp [plainName, overriddenIn]; done) | decide +kernel
theorem pd1 : parseMethodDescriptor "(I)Z" = some ⟨[.int], some .boolean⟩ := by decide +kernel
theorem ef1 (m : MethodId) (i0 : Int32) : entryFrame m #[(.int i0)] 1 = mkF m 0 #[.val (.int i0)] [] := by first | (simp [entryFrame, mkF, argsToLocals, Value.category]; done) | rfl
theorem d1_0 : decode prog_47_method_3_code 0 = .ok (.iload_n 0, 1) := by decide +kernel
theorem d1_1 : decode prog_47_method_3_code 1 = .ok (.bipush 65, 2) := by decide +kernel
theorem d1_3 : decode prog_47_method_3_code 3 = .ok (.if_icmp .lt 9, 3) := by decide +kernel
theorem d1_6 : decode prog_47_method_3_code 6 = .ok (.iload_n 0, 1) := by decide +kernel
theorem d1_7 : decode prog_47_method_3_code 7 = .ok (.bipush 90, 2) := by decide +kernel
theorem d1_9 : decode prog_47_method_3_code 9 = .ok (.if_icmp .le 9, 3) := by decide +kernel
theorem d1_12 : decode prog_47_method_3_code 12 = .ok (.iload_n 0, 1) := by decide +kernel
theorem d1_13 : decode prog_47_method_3_code 13 = .ok (.bipush 95, 2) := by decide +kernel
theorem d1_15 : decode prog_47_method_3_code 15 = .ok (.if_icmp .ne 7, 3) := by decide +kernel
theorem d1_18 : decode prog_47_method_3_code 18 = .ok (.iconst 1, 1) := by decide +kernel
theorem d1_19 : decode prog_47_method_3_code 19 = .ok (.goto 4, 3) := by decide +kernel
theorem d1_22 : decode prog_47_method_3_code 22 = .ok (.iconst 0, 1) := by decide +kernel
theorem d1_23 : decode prog_47_method_3_code 23 = .ok (.ireturn, 1) := by decide +kernel
set_option maxRecDepth 65536 in
set_option maxHeartbeats 40000000 in
theorem rm1 (l : Launch) (Z : State) (a0 : Array Value) (hw : ∀ d ∈ tables_1, d.before a0 Z = true) (i0 : Int32) (h0 : Heap) (n0 : Nat) (Z0 : n0 ≤ h0.size) :
    Ctr l Z (⟨"com/example/nestor/nestor/lang/Identifiers", "isVariableStart", "(I)Z"⟩ : MethodName) prog_47_method_3_code 1 (some .boolean) ({ frames := 0, cells := 0, slots := 0, locals := 0 } : Room) #[(.int i0)] h0 n0 (fun v h' => v = some (.int (f1 i0)) ∧ h' = h0) := by
  refine Ctr.body (L := #[.val (.int i0)]) (plainFor_of_name pn1) Z0 (fun m => ef1 m i0) ?_
  intro p e F m below meth c T0 C0
  refine C0.iloadN d1_0 rfl rfl ?_
  refine C0.bipush (65 : Int32) d1_1 rfl rfl ?_
  refine C0.icmp_lt d1_3 (by decide) (by decide : _ = 12) rfl (fun c3 => ?_) (fun c3 => ?_)
  · refine C0.iloadN d1_12 rfl rfl ?_
    refine C0.bipush (95 : Int32) d1_13 rfl rfl ?_
    refine C0.icmp_ne d1_15 (by decide) (by decide : _ = 22) rfl (fun c15 => ?_) (fun c15 => ?_)
    · refine C0.iconst (0 : Int32) d1_22 rfl rfl ?_
      exact C0.retN (t := .boolean) d1_23 rfl (by simp) (by decide) (by decide) (w := (0 : Int32)) rfl ⟨by rw [f1, if_pos c3, if_neg c15], rfl⟩
    · refine C0.iconst (1 : Int32) d1_18 rfl rfl ?_
      refine C0.goto d1_19 (by decide) (by decide : _ = 23) ?_
      exact C0.retN (t := .boolean) d1_23 rfl (by simp) (by decide) (by decide) (w := (1 : Int32)) rfl ⟨by rw [f1, if_pos c3, if_pos c15], rfl⟩
  · refine C0.iloadN d1_6 rfl rfl ?_
    refine C0.bipush (90 : Int32) d1_7 rfl rfl ?_
    refine C0.icmp_le d1_9 (by decide) (by decide : _ = 18) rfl (fun c9 => ?_) (fun c9 => ?_)
    · refine C0.iconst (1 : Int32) d1_18 rfl rfl ?_
      refine C0.goto d1_19 (by decide) (by decide : _ = 23) ?_
      exact C0.retN (t := .boolean) d1_23 rfl (by simp) (by decide) (by decide) (w := (1 : Int32)) rfl ⟨by rw [f1, if_neg c3, if_neg c9], rfl⟩
    · refine C0.iloadN d1_12 rfl rfl ?_
      refine C0.bipush (95 : Int32) d1_13 rfl rfl ?_
      refine C0.icmp_ne d1_15 (by decide) (by decide : _ = 22) rfl (fun c15 => ?_) (fun c15 => ?_)
      · refine C0.iconst (0 : Int32) d1_22 rfl rfl ?_
        exact C0.retN (t := .boolean) d1_23 rfl (by simp) (by decide) (by decide) (w := (0 : Int32)) rfl ⟨by rw [f1, if_neg c3, if_pos c9, if_neg c15], rfl⟩
      · refine C0.iconst (1 : Int32) d1_18 rfl rfl ?_
        refine C0.goto d1_19 (by decide) (by decide : _ = 23) ?_
        exact C0.retN (t := .boolean) d1_23 rfl (by simp) (by decide) (by decide) (w := (1 : Int32)) rfl ⟨by rw [f1, if_neg c3, if_pos c9, if_pos c15], rfl⟩
def f2 (i0 : Int32) : Int32 := if i0 < (97 : Int32) then (0 : Int32) else (if (122 : Int32) < i0 then (0 : Int32) else ((1 : Int32)))
theorem pn2 : plainName "com/example/nestor/nestor/lang/Identifiers" = true := by first | (simp [plainName, overriddenIn]; done) | decide +kernel
theorem pd2 : parseMethodDescriptor "(I)Z" = some ⟨[.int], some .boolean⟩ := by decide +kernel
theorem ef2 (m : MethodId) (i0 : Int32) : entryFrame m #[(.int i0)] 1 = mkF m 0 #[.val (.int i0)] [] := by first | (simp [entryFrame, mkF, argsToLocals, Value.category]; done) | rfl
theorem d2_0 : decode prog_47_method_2_code 0 = .ok (.iload_n 0, 1) := by decide +kernel
theorem d2_1 : decode prog_47_method_2_code 1 = .ok (.bipush 97, 2) := by decide +kernel
theorem d2_3 : decode prog_47_method_2_code 3 = .ok (.if_icmp .lt 13, 3) := by decide +kernel
theorem d2_6 : decode prog_47_method_2_code 6 = .ok (.iload_n 0, 1) := by decide +kernel
theorem d2_7 : decode prog_47_method_2_code 7 = .ok (.bipush 122, 2) := by decide +kernel
theorem d2_9 : decode prog_47_method_2_code 9 = .ok (.if_icmp .gt 7, 3) := by decide +kernel
theorem d2_12 : decode prog_47_method_2_code 12 = .ok (.iconst 1, 1) := by decide +kernel
theorem d2_13 : decode prog_47_method_2_code 13 = .ok (.goto 4, 3) := by decide +kernel
theorem d2_16 : decode prog_47_method_2_code 16 = .ok (.iconst 0, 1) := by decide +kernel
theorem d2_17 : decode prog_47_method_2_code 17 = .ok (.ireturn, 1) := by decide +kernel
set_option maxRecDepth 65536 in
set_option maxHeartbeats 40000000 in
theorem rm2 (l : Launch) (Z : State) (a0 : Array Value) (hw : ∀ d ∈ tables_1, d.before a0 Z = true) (i0 : Int32) (h0 : Heap) (n0 : Nat) (Z0 : n0 ≤ h0.size) :
    Ctr l Z (⟨"com/example/nestor/nestor/lang/Identifiers", "isStart", "(I)Z"⟩ : MethodName) prog_47_method_2_code 1 (some .boolean) ({ frames := 0, cells := 0, slots := 0, locals := 0 } : Room) #[(.int i0)] h0 n0 (fun v h' => v = some (.int (f2 i0)) ∧ h' = h0) := by
  refine Ctr.body (L := #[.val (.int i0)]) (plainFor_of_name pn2) Z0 (fun m => ef2 m i0) ?_
  intro p e F m below meth c T0 C0
  refine C0.iloadN d2_0 rfl rfl ?_
  refine C0.bipush (97 : Int32) d2_1 rfl rfl ?_
  refine C0.icmp_lt d2_3 (by decide) (by decide : _ = 16) rfl (fun c3 => ?_) (fun c3 => ?_)
  · refine C0.iconst (0 : Int32) d2_16 rfl rfl ?_
    exact C0.retN (t := .boolean) d2_17 rfl (by simp) (by decide) (by decide) (w := (0 : Int32)) rfl ⟨by rw [f2, if_pos c3], rfl⟩
  · refine C0.iloadN d2_6 rfl rfl ?_
    refine C0.bipush (122 : Int32) d2_7 rfl rfl ?_
    refine C0.icmp_gt d2_9 (by decide) (by decide : _ = 16) rfl (fun c9 => ?_) (fun c9 => ?_)
    · refine C0.iconst (0 : Int32) d2_16 rfl rfl ?_
      exact C0.retN (t := .boolean) d2_17 rfl (by simp) (by decide) (by decide) (w := (0 : Int32)) rfl ⟨by rw [f2, if_neg c3, if_pos c9], rfl⟩
    · refine C0.iconst (1 : Int32) d2_12 rfl rfl ?_
      refine C0.goto d2_13 (by decide) (by decide : _ = 17) ?_
      exact C0.retN (t := .boolean) d2_17 rfl (by simp) (by decide) (by decide) (w := (1 : Int32)) rfl ⟨by rw [f2, if_neg c3, if_neg c9], rfl⟩
def f3 (i0 : Int32) : Int32 := if i0 < (97 : Int32) then if i0 < (65 : Int32) then if i0 < (48 : Int32) then if i0 = (95 : Int32) then (1 : Int32) else ((0 : Int32)) else (if (57 : Int32) < i0 then if i0 = (95 : Int32) then (1 : Int32) else ((0 : Int32)) else ((1 : Int32))) else (if (90 : Int32) < i0 then if i0 < (48 : Int32) then if i0 = (95 : Int32) then (1 : Int32) else ((0 : Int32)) else (if (57 : Int32) < i0 then if i0 = (95 : Int32) then (1 : Int32) else ((0 : Int32)) else ((1 : Int32))) else ((1 : Int32))) else (if (122 : Int32) < i0 then if i0 < (65 : Int32) then if i0 < (48 : Int32) then if i0 = (95 : Int32) then (1 : Int32) else ((0 : Int32)) else (if (57 : Int32) < i0 then if i0 = (95 : Int32) then (1 : Int32) else ((0 : Int32)) else ((1 : Int32))) else (if (90 : Int32) < i0 then if i0 < (48 : Int32) then if i0 = (95 : Int32) then (1 : Int32) else ((0 : Int32)) else (if (57 : Int32) < i0 then if i0 = (95 : Int32) then (1 : Int32) else ((0 : Int32)) else ((1 : Int32))) else ((1 : Int32))) else ((1 : Int32)))
theorem pn3 : plainName "com/example/nestor/nestor/lang/Identifiers" = true := by first | (simp [plainName, overriddenIn]; done) | decide +kernel
theorem pd3 : parseMethodDescriptor "(I)Z" = some ⟨[.int], some .boolean⟩ := by decide +kernel
theorem ef3 (m : MethodId) (i0 : Int32) : entryFrame m #[(.int i0)] 1 = mkF m 0 #[.val (.int i0)] [] := by first | (simp [entryFrame, mkF, argsToLocals, Value.category]; done) | rfl
theorem d3_0 : decode prog_47_method_4_code 0 = .ok (.iload_n 0, 1) := by decide +kernel
theorem d3_1 : decode prog_47_method_4_code 1 = .ok (.bipush 97, 2) := by decide +kernel
theorem d3_3 : decode prog_47_method_4_code 3 = .ok (.if_icmp .lt 9, 3) := by decide +kernel
theorem d3_6 : decode prog_47_method_4_code 6 = .ok (.iload_n 0, 1) := by decide +kernel
theorem d3_7 : decode prog_47_method_4_code 7 = .ok (.bipush 122, 2) := by decide +kernel
theorem d3_9 : decode prog_47_method_4_code 9 = .ok (.if_icmp .le 33, 3) := by decide +kernel
theorem d3_12 : decode prog_47_method_4_code 12 = .ok (.iload_n 0, 1) := by decide +kernel
theorem d3_13 : decode prog_47_method_4_code 13 = .ok (.bipush 65, 2) := by decide +kernel
theorem d3_15 : decode prog_47_method_4_code 15 = .ok (.if_icmp .lt 9, 3) := by decide +kernel
theorem d3_18 : decode prog_47_method_4_code 18 = .ok (.iload_n 0, 1) := by decide +kernel
theorem d3_19 : decode prog_47_method_4_code 19 = .ok (.bipush 90, 2) := by decide +kernel
theorem d3_21 : decode prog_47_method_4_code 21 = .ok (.if_icmp .le 21, 3) := by decide +kernel
theorem d3_24 : decode prog_47_method_4_code 24 = .ok (.iload_n 0, 1) := by decide +kernel
theorem d3_25 : decode prog_47_method_4_code 25 = .ok (.bipush 48, 2) := by decide +kernel
theorem d3_27 : decode prog_47_method_4_code 27 = .ok (.if_icmp .lt 9, 3) := by decide +kernel
theorem d3_30 : decode prog_47_method_4_code 30 = .ok (.iload_n 0, 1) := by decide +kernel
theorem d3_31 : decode prog_47_method_4_code 31 = .ok (.bipush 57, 2) := by decide +kernel
theorem d3_33 : decode prog_47_method_4_code 33 = .ok (.if_icmp .le 9, 3) := by decide +kernel
theorem d3_36 : decode prog_47_method_4_code 36 = .ok (.iload_n 0, 1) := by decide +kernel
theorem d3_37 : decode prog_47_method_4_code 37 = .ok (.bipush 95, 2) := by decide +kernel
theorem d3_39 : decode prog_47_method_4_code 39 = .ok (.if_icmp .ne 7, 3) := by decide +kernel
theorem d3_42 : decode prog_47_method_4_code 42 = .ok (.iconst 1, 1) := by decide +kernel
theorem d3_43 : decode prog_47_method_4_code 43 = .ok (.goto 4, 3) := by decide +kernel
theorem d3_46 : decode prog_47_method_4_code 46 = .ok (.iconst 0, 1) := by decide +kernel
theorem d3_47 : decode prog_47_method_4_code 47 = .ok (.ireturn, 1) := by decide +kernel
set_option maxRecDepth 65536 in
set_option maxHeartbeats 40000000 in
theorem rm3 (l : Launch) (Z : State) (a0 : Array Value) (hw : ∀ d ∈ tables_1, d.before a0 Z = true) (i0 : Int32) (h0 : Heap) (n0 : Nat) (Z0 : n0 ≤ h0.size) :
    Ctr l Z (⟨"com/example/nestor/nestor/lang/Identifiers", "isPart", "(I)Z"⟩ : MethodName) prog_47_method_4_code 1 (some .boolean) ({ frames := 0, cells := 0, slots := 0, locals := 0 } : Room) #[(.int i0)] h0 n0 (fun v h' => v = some (.int (f3 i0)) ∧ h' = h0) := by
  refine Ctr.body (L := #[.val (.int i0)]) (plainFor_of_name pn3) Z0 (fun m => ef3 m i0) ?_
  intro p e F m below meth c T0 C0
  refine C0.iloadN d3_0 rfl rfl ?_
  refine C0.bipush (97 : Int32) d3_1 rfl rfl ?_
  refine C0.icmp_lt d3_3 (by decide) (by decide : _ = 12) rfl (fun c3 => ?_) (fun c3 => ?_)
  · refine C0.iloadN d3_12 rfl rfl ?_
    refine C0.bipush (65 : Int32) d3_13 rfl rfl ?_
    refine C0.icmp_lt d3_15 (by decide) (by decide : _ = 24) rfl (fun c15 => ?_) (fun c15 => ?_)
    · refine C0.iloadN d3_24 rfl rfl ?_
      refine C0.bipush (48 : Int32) d3_25 rfl rfl ?_
      refine C0.icmp_lt d3_27 (by decide) (by decide : _ = 36) rfl (fun c27 => ?_) (fun c27 => ?_)
      · refine C0.iloadN d3_36 rfl rfl ?_
        refine C0.bipush (95 : Int32) d3_37 rfl rfl ?_
        refine C0.icmp_ne d3_39 (by decide) (by decide : _ = 46) rfl (fun c39 => ?_) (fun c39 => ?_)
        · refine C0.iconst (0 : Int32) d3_46 rfl rfl ?_
          exact C0.retN (t := .boolean) d3_47 rfl (by simp) (by decide) (by decide) (w := (0 : Int32)) rfl ⟨by rw [f3, if_pos c3, if_pos c15, if_pos c27, if_neg c39], rfl⟩
        · refine C0.iconst (1 : Int32) d3_42 rfl rfl ?_
          refine C0.goto d3_43 (by decide) (by decide : _ = 47) ?_
          exact C0.retN (t := .boolean) d3_47 rfl (by simp) (by decide) (by decide) (w := (1 : Int32)) rfl ⟨by rw [f3, if_pos c3, if_pos c15, if_pos c27, if_pos c39], rfl⟩
      · refine C0.iloadN d3_30 rfl rfl ?_
        refine C0.bipush (57 : Int32) d3_31 rfl rfl ?_
        refine C0.icmp_le d3_33 (by decide) (by decide : _ = 42) rfl (fun c33 => ?_) (fun c33 => ?_)
        · refine C0.iconst (1 : Int32) d3_42 rfl rfl ?_
          refine C0.goto d3_43 (by decide) (by decide : _ = 47) ?_
          exact C0.retN (t := .boolean) d3_47 rfl (by simp) (by decide) (by decide) (w := (1 : Int32)) rfl ⟨by rw [f3, if_pos c3, if_pos c15, if_neg c27, if_neg c33], rfl⟩
        · refine C0.iloadN d3_36 rfl rfl ?_
          refine C0.bipush (95 : Int32) d3_37 rfl rfl ?_
          refine C0.icmp_ne d3_39 (by decide) (by decide : _ = 46) rfl (fun c39 => ?_) (fun c39 => ?_)
          · refine C0.iconst (0 : Int32) d3_46 rfl rfl ?_
            exact C0.retN (t := .boolean) d3_47 rfl (by simp) (by decide) (by decide) (w := (0 : Int32)) rfl ⟨by rw [f3, if_pos c3, if_pos c15, if_neg c27, if_pos c33, if_neg c39], rfl⟩
          · refine C0.iconst (1 : Int32) d3_42 rfl rfl ?_
            refine C0.goto d3_43 (by decide) (by decide : _ = 47) ?_
            exact C0.retN (t := .boolean) d3_47 rfl (by simp) (by decide) (by decide) (w := (1 : Int32)) rfl ⟨by rw [f3, if_pos c3, if_pos c15, if_neg c27, if_pos c33, if_pos c39], rfl⟩
    · refine C0.iloadN d3_18 rfl rfl ?_
      refine C0.bipush (90 : Int32) d3_19 rfl rfl ?_
      refine C0.icmp_le d3_21 (by decide) (by decide : _ = 42) rfl (fun c21 => ?_) (fun c21 => ?_)
      · refine C0.iconst (1 : Int32) d3_42 rfl rfl ?_
        refine C0.goto d3_43 (by decide) (by decide : _ = 47) ?_
        exact C0.retN (t := .boolean) d3_47 rfl (by simp) (by decide) (by decide) (w := (1 : Int32)) rfl ⟨by rw [f3, if_pos c3, if_neg c15, if_neg c21], rfl⟩
      · refine C0.iloadN d3_24 rfl rfl ?_
        refine C0.bipush (48 : Int32) d3_25 rfl rfl ?_
        refine C0.icmp_lt d3_27 (by decide) (by decide : _ = 36) rfl (fun c27 => ?_) (fun c27 => ?_)
        · refine C0.iloadN d3_36 rfl rfl ?_
          refine C0.bipush (95 : Int32) d3_37 rfl rfl ?_
          refine C0.icmp_ne d3_39 (by decide) (by decide : _ = 46) rfl (fun c39 => ?_) (fun c39 => ?_)
          · refine C0.iconst (0 : Int32) d3_46 rfl rfl ?_
            exact C0.retN (t := .boolean) d3_47 rfl (by simp) (by decide) (by decide) (w := (0 : Int32)) rfl ⟨by rw [f3, if_pos c3, if_neg c15, if_pos c21, if_pos c27, if_neg c39], rfl⟩
          · refine C0.iconst (1 : Int32) d3_42 rfl rfl ?_
            refine C0.goto d3_43 (by decide) (by decide : _ = 47) ?_
            exact C0.retN (t := .boolean) d3_47 rfl (by simp) (by decide) (by decide) (w := (1 : Int32)) rfl ⟨by rw [f3, if_pos c3, if_neg c15, if_pos c21, if_pos c27, if_pos c39], rfl⟩
        · refine C0.iloadN d3_30 rfl rfl ?_
          refine C0.bipush (57 : Int32) d3_31 rfl rfl ?_
          refine C0.icmp_le d3_33 (by decide) (by decide : _ = 42) rfl (fun c33 => ?_) (fun c33 => ?_)
          · refine C0.iconst (1 : Int32) d3_42 rfl rfl ?_
            refine C0.goto d3_43 (by decide) (by decide : _ = 47) ?_
            exact C0.retN (t := .boolean) d3_47 rfl (by simp) (by decide) (by decide) (w := (1 : Int32)) rfl ⟨by rw [f3, if_pos c3, if_neg c15, if_pos c21, if_neg c27, if_neg c33], rfl⟩
          · refine C0.iloadN d3_36 rfl rfl ?_
            refine C0.bipush (95 : Int32) d3_37 rfl rfl ?_
            refine C0.icmp_ne d3_39 (by decide) (by decide : _ = 46) rfl (fun c39 => ?_) (fun c39 => ?_)
            · refine C0.iconst (0 : Int32) d3_46 rfl rfl ?_
              exact C0.retN (t := .boolean) d3_47 rfl (by simp) (by decide) (by decide) (w := (0 : Int32)) rfl ⟨by rw [f3, if_pos c3, if_neg c15, if_pos c21, if_neg c27, if_pos c33, if_neg c39], rfl⟩
            · refine C0.iconst (1 : Int32) d3_42 rfl rfl ?_
              refine C0.goto d3_43 (by decide) (by decide : _ = 47) ?_
              exact C0.retN (t := .boolean) d3_47 rfl (by simp) (by decide) (by decide) (w := (1 : Int32)) rfl ⟨by rw [f3, if_pos c3, if_neg c15, if_pos c21, if_neg c27, if_pos c33, if_pos c39], rfl⟩
  · refine C0.iloadN d3_6 rfl rfl ?_
    refine C0.bipush (122 : Int32) d3_7 rfl rfl ?_
    refine C0.icmp_le d3_9 (by decide) (by decide : _ = 42) rfl (fun c9 => ?_) (fun c9 => ?_)
    · refine C0.iconst (1 : Int32) d3_42 rfl rfl ?_
      refine C0.goto d3_43 (by decide) (by decide : _ = 47) ?_
      exact C0.retN (t := .boolean) d3_47 rfl (by simp) (by decide) (by decide) (w := (1 : Int32)) rfl ⟨by rw [f3, if_neg c3, if_neg c9], rfl⟩
    · refine C0.iloadN d3_12 rfl rfl ?_
      refine C0.bipush (65 : Int32) d3_13 rfl rfl ?_
      refine C0.icmp_lt d3_15 (by decide) (by decide : _ = 24) rfl (fun c15 => ?_) (fun c15 => ?_)
      · refine C0.iloadN d3_24 rfl rfl ?_
        refine C0.bipush (48 : Int32) d3_25 rfl rfl ?_
        refine C0.icmp_lt d3_27 (by decide) (by decide : _ = 36) rfl (fun c27 => ?_) (fun c27 => ?_)
        · refine C0.iloadN d3_36 rfl rfl ?_
          refine C0.bipush (95 : Int32) d3_37 rfl rfl ?_
          refine C0.icmp_ne d3_39 (by decide) (by decide : _ = 46) rfl (fun c39 => ?_) (fun c39 => ?_)
          · refine C0.iconst (0 : Int32) d3_46 rfl rfl ?_
            exact C0.retN (t := .boolean) d3_47 rfl (by simp) (by decide) (by decide) (w := (0 : Int32)) rfl ⟨by rw [f3, if_neg c3, if_pos c9, if_pos c15, if_pos c27, if_neg c39], rfl⟩
          · refine C0.iconst (1 : Int32) d3_42 rfl rfl ?_
            refine C0.goto d3_43 (by decide) (by decide : _ = 47) ?_
            exact C0.retN (t := .boolean) d3_47 rfl (by simp) (by decide) (by decide) (w := (1 : Int32)) rfl ⟨by rw [f3, if_neg c3, if_pos c9, if_pos c15, if_pos c27, if_pos c39], rfl⟩
        · refine C0.iloadN d3_30 rfl rfl ?_
          refine C0.bipush (57 : Int32) d3_31 rfl rfl ?_
          refine C0.icmp_le d3_33 (by decide) (by decide : _ = 42) rfl (fun c33 => ?_) (fun c33 => ?_)
          · refine C0.iconst (1 : Int32) d3_42 rfl rfl ?_
            refine C0.goto d3_43 (by decide) (by decide : _ = 47) ?_
            exact C0.retN (t := .boolean) d3_47 rfl (by simp) (by decide) (by decide) (w := (1 : Int32)) rfl ⟨by rw [f3, if_neg c3, if_pos c9, if_pos c15, if_neg c27, if_neg c33], rfl⟩
          · refine C0.iloadN d3_36 rfl rfl ?_
            refine C0.bipush (95 : Int32) d3_37 rfl rfl ?_
            refine C0.icmp_ne d3_39 (by decide) (by decide : _ = 46) rfl (fun c39 => ?_) (fun c39 => ?_)
            · refine C0.iconst (0 : Int32) d3_46 rfl rfl ?_
              exact C0.retN (t := .boolean) d3_47 rfl (by simp) (by decide) (by decide) (w := (0 : Int32)) rfl ⟨by rw [f3, if_neg c3, if_pos c9, if_pos c15, if_neg c27, if_pos c33, if_neg c39], rfl⟩
            · refine C0.iconst (1 : Int32) d3_42 rfl rfl ?_
              refine C0.goto d3_43 (by decide) (by decide : _ = 47) ?_
              exact C0.retN (t := .boolean) d3_47 rfl (by simp) (by decide) (by decide) (w := (1 : Int32)) rfl ⟨by rw [f3, if_neg c3, if_pos c9, if_pos c15, if_neg c27, if_pos c33, if_pos c39], rfl⟩
      · refine C0.iloadN d3_18 rfl rfl ?_
        refine C0.bipush (90 : Int32) d3_19 rfl rfl ?_
        refine C0.icmp_le d3_21 (by decide) (by decide : _ = 42) rfl (fun c21 => ?_) (fun c21 => ?_)
        · refine C0.iconst (1 : Int32) d3_42 rfl rfl ?_
          refine C0.goto d3_43 (by decide) (by decide : _ = 47) ?_
          exact C0.retN (t := .boolean) d3_47 rfl (by simp) (by decide) (by decide) (w := (1 : Int32)) rfl ⟨by rw [f3, if_neg c3, if_pos c9, if_neg c15, if_neg c21], rfl⟩
        · refine C0.iloadN d3_24 rfl rfl ?_
          refine C0.bipush (48 : Int32) d3_25 rfl rfl ?_
          refine C0.icmp_lt d3_27 (by decide) (by decide : _ = 36) rfl (fun c27 => ?_) (fun c27 => ?_)
          · refine C0.iloadN d3_36 rfl rfl ?_
            refine C0.bipush (95 : Int32) d3_37 rfl rfl ?_
            refine C0.icmp_ne d3_39 (by decide) (by decide : _ = 46) rfl (fun c39 => ?_) (fun c39 => ?_)
            · refine C0.iconst (0 : Int32) d3_46 rfl rfl ?_
              exact C0.retN (t := .boolean) d3_47 rfl (by simp) (by decide) (by decide) (w := (0 : Int32)) rfl ⟨by rw [f3, if_neg c3, if_pos c9, if_neg c15, if_pos c21, if_pos c27, if_neg c39], rfl⟩
            · refine C0.iconst (1 : Int32) d3_42 rfl rfl ?_
              refine C0.goto d3_43 (by decide) (by decide : _ = 47) ?_
              exact C0.retN (t := .boolean) d3_47 rfl (by simp) (by decide) (by decide) (w := (1 : Int32)) rfl ⟨by rw [f3, if_neg c3, if_pos c9, if_neg c15, if_pos c21, if_pos c27, if_pos c39], rfl⟩
          · refine C0.iloadN d3_30 rfl rfl ?_
            refine C0.bipush (57 : Int32) d3_31 rfl rfl ?_
            refine C0.icmp_le d3_33 (by decide) (by decide : _ = 42) rfl (fun c33 => ?_) (fun c33 => ?_)
            · refine C0.iconst (1 : Int32) d3_42 rfl rfl ?_
              refine C0.goto d3_43 (by decide) (by decide : _ = 47) ?_
              exact C0.retN (t := .boolean) d3_47 rfl (by simp) (by decide) (by decide) (w := (1 : Int32)) rfl ⟨by rw [f3, if_neg c3, if_pos c9, if_neg c15, if_pos c21, if_neg c27, if_neg c33], rfl⟩
            · refine C0.iloadN d3_36 rfl rfl ?_
              refine C0.bipush (95 : Int32) d3_37 rfl rfl ?_
              refine C0.icmp_ne d3_39 (by decide) (by decide : _ = 46) rfl (fun c39 => ?_) (fun c39 => ?_)
              · refine C0.iconst (0 : Int32) d3_46 rfl rfl ?_
                exact C0.retN (t := .boolean) d3_47 rfl (by simp) (by decide) (by decide) (w := (0 : Int32)) rfl ⟨by rw [f3, if_neg c3, if_pos c9, if_neg c15, if_pos c21, if_neg c27, if_pos c33, if_neg c39], rfl⟩
              · refine C0.iconst (1 : Int32) d3_42 rfl rfl ?_
                refine C0.goto d3_43 (by decide) (by decide : _ = 47) ?_
                exact C0.retN (t := .boolean) d3_47 rfl (by simp) (by decide) (by decide) (w := (1 : Int32)) rfl ⟨by rw [f3, if_neg c3, if_pos c9, if_neg c15, if_pos c21, if_neg c27, if_pos c33, if_pos c39], rfl⟩
set_option maxRecDepth 65536 in
set_option maxHeartbeats 40000000 in
theorem own_bad0 (i0 : Int32) (v2 : Int32) (v4 : Int32) (u5 : Int32) (hv2 : v2 = (f1 i0)) (hv4 : v4 = (f2 (i0 + (32 : Int32)))) (hu5 : u5 = (if i0 = (95 : Int32) then (1 : Int32) else (if v4 = (0 : Int32) then (0 : Int32) else (1 : Int32)))) (c31 : v2 = u5) (c37 : ¬ v2 = (0 : Int32)) (c44 : ¬ (f3 i0) = (0 : Int32)) (c57 : ¬ (f2 i0) = (0 : Int32)) : False := by
  have ca_0 := c_iadd i0 32
  have bl_0 := (i0).le_toInt; have bu_0 := (i0).toInt_lt
  have bl_1 := (i0 + 32).le_toInt; have bu_1 := (i0 + 32).toInt_lt
  try simp only [f1, f2, f3, own_eqite, own_iteeq] at *
  try simp only [ne_eq, and_true, true_and, or_true, true_or, and_false, false_and, or_false, false_or, not_true_eq_false, not_false_eq_true, Int32.lt_iff_toInt_lt, Int64.lt_iff_toInt_lt, ← Int32.toInt_inj, ← Int64.toInt_inj, Int32.reduceToInt, Int64.reduceToInt] at *
  omega
set_option maxRecDepth 65536 in
set_option maxHeartbeats 40000000 in
theorem own_bad1 (i0 : Int32) (v2 : Int32) (v4 : Int32) (u5 : Int32) (hv2 : v2 = (f1 i0)) (hv4 : v4 = (f2 (i0 + (32 : Int32)))) (hu5 : u5 = (if i0 = (95 : Int32) then (1 : Int32) else (if v4 = (0 : Int32) then (0 : Int32) else (1 : Int32)))) (c31 : v2 = u5) (c37 : ¬ v2 = (0 : Int32)) (c44 : (f3 i0) = (0 : Int32)) : False := by
  have ca_0 := c_iadd i0 32
  have bl_0 := (i0).le_toInt; have bu_0 := (i0).toInt_lt
  have bl_1 := (i0 + 32).le_toInt; have bu_1 := (i0 + 32).toInt_lt
  try simp only [f1, f2, f3, own_eqite, own_iteeq] at *
  try simp only [ne_eq, and_true, true_and, or_true, true_or, and_false, false_and, or_false, false_or, not_true_eq_false, not_false_eq_true, Int32.lt_iff_toInt_lt, Int64.lt_iff_toInt_lt, ← Int32.toInt_inj, ← Int64.toInt_inj, Int32.reduceToInt, Int64.reduceToInt] at *
  omega
set_option maxRecDepth 65536 in
set_option maxHeartbeats 40000000 in
theorem own_bad2 (i0 : Int32) (v2 : Int32) (v4 : Int32) (u5 : Int32) (hv2 : v2 = (f1 i0)) (hv4 : v4 = (f2 (i0 + (32 : Int32)))) (hu5 : u5 = (if i0 = (95 : Int32) then (1 : Int32) else (if v4 = (0 : Int32) then (0 : Int32) else (1 : Int32)))) (c31 : ¬ v2 = u5) : False := by
  have ca_0 := c_iadd i0 32
  have bl_0 := (i0).le_toInt; have bu_0 := (i0).toInt_lt
  have bl_1 := (i0 + 32).le_toInt; have bu_1 := (i0 + 32).toInt_lt
  try simp only [f1, f2, f3, own_eqite, own_iteeq] at *
  try simp only [ne_eq, and_true, true_and, or_true, true_or, and_false, false_and, or_false, false_or, not_true_eq_false, not_false_eq_true, Int32.lt_iff_toInt_lt, Int64.lt_iff_toInt_lt, ← Int32.toInt_inj, ← Int64.toInt_inj, Int32.reduceToInt, Int64.reduceToInt] at *
  omega
theorem pn0 : plainName "com/example/nestor/nestor/lang/IdentifiersIsVariableStartPinLaw" = true := by first | (simp [plainName, overriddenIn]; done) | decide +kernel
theorem ef0 (m : MethodId) (i0 : Int32) : entryFrame m #[(.int i0)] maxLocals = mkF m 0 #[.val (.int i0), .unset, .unset, .unset] [] := by first | (simp [entryFrame, mkF, argsToLocals, Value.category, maxLocals]; done) | rfl
set_option maxRecDepth 65536 in
set_option maxHeartbeats 40000000 in
theorem rm0 (l : Launch) (Z : State) (a0 : Array Value) (hw : ∀ d ∈ tables_1, d.before a0 Z = true) (i0 : Int32) (h0 : Heap) (n0 : Nat) (Z0 : n0 ≤ h0.size) :
    Ctr l Z x code maxLocals ret room_1 #[(.int i0)] h0 n0 (fun v _ => v = some (.int (1 : Int32))) := by
  refine Ctr.body (L := #[.val (.int i0), .unset, .unset, .unset]) (plainFor_of_name pn0) Z0 (fun m => ef0 m i0) ?_
  intro p e F m below meth c T0 C0
  refine C0.iloadN at_0 rfl rfl ?_
  refine C0.callSP (w := (.int (f1 i0))) (hw _ (List.mem_of_getElem? (i := 0) rfl)) (hw _ (List.mem_of_getElem? (i := 1) rfl)) (hw _ (List.mem_of_getElem? (i := 2) rfl)) (hw _ (List.mem_of_getElem? (i := 3) rfl)) (by decide) (rm1 l Z a0 hw i0 h0 n0 C0.size) (argsL := [(.int i0)]) pd1 rfl 0 (by decide) (by decide) rfl rfl (by decide) (by decide) (rest := []) rfl rfl (Nat.le_of_eq rfl) at_1 rfl (fun T1 C1 => ?_)
  refine C1.istoreNV (fun v => #[.val (.int i0), .val (.int v), .unset, .unset]) at_4 rfl (fun _ => rfl) (fun v2 hv2 => ?_)
  refine C1.iloadN at_5 rfl rfl ?_
  refine C1.bipush (32 : Int32) at_6 rfl rfl ?_
  refine C1.iadd at_8 rfl ?_
  refine C1.callSP (w := (.int (f2 (i0 + (32 : Int32))))) (hw _ (List.mem_of_getElem? (i := 4) rfl)) (hw _ (List.mem_of_getElem? (i := 5) rfl)) (hw _ (List.mem_of_getElem? (i := 2) rfl)) (hw _ (List.mem_of_getElem? (i := 6) rfl)) (by decide) (rm2 l Z a0 hw (i0 + (32 : Int32)) h0 n0 C1.size) (argsL := [(.int (i0 + (32 : Int32)))]) pd2 rfl 0 (by decide) (by decide) rfl rfl (by decide) (by decide) (rest := []) rfl rfl (Nat.le_of_eq rfl) at_9 rfl (fun T3 C3 => ?_)
  refine C3.istoreNV (fun v => #[.val (.int i0), .val (.int v2), .val (.int v), .unset]) at_12 rfl (fun _ => rfl) (fun v4 hv4 => ?_)
  refine C3.iloadN at_13 rfl rfl ?_
  refine C3.bipush (95 : Int32) at_14 rfl rfl ?_
  have J28 : ∀ (T6 : State) (u5 : Int32), Cx p l e room_1 m #[(.int i0)] below meth c Z x code maxLocals ret n0 false F T6 h0 0 0 → u5 = (if i0 = (95 : Int32) then (1 : Int32) else (if v4 = (0 : Int32) then (0 : Int32) else (1 : Int32))) → Go p e below F n0 (fun v _ => v = some (.int (1 : Int32))) T6 (mkF m 28 #[.val (.int i0), .val (.int v2), .val (.int v4), .unset] [(.int u5)]) := by
    intro T6 u5 C6 hu5
    refine C6.istoreN at_28 rfl (L' := #[.val (.int i0), .val (.int v2), .val (.int v4), .val (.int u5)]) rfl ?_
    refine C6.iloadN at_29 rfl rfl ?_
    refine C6.iloadN at_30 rfl rfl ?_
    refine C6.icmp_eq at_31 (by decide) (by decide : _ = 36) rfl (fun c31 => ?_) (fun c31 => ?_)
    · refine C6.iloadN at_36 rfl rfl ?_
      refine C6.if_eq at_37 (by decide) (by decide : _ = 49) rfl (fun c37 => ?_) (fun c37 => ?_)
      · refine C6.iloadN at_49 rfl rfl ?_
        refine C6.if_eq at_50 (by decide) (by decide : _ = 62) rfl (fun _ => ?_) (fun q => absurd c37 q)
        refine C6.iconst (1 : Int32) at_62 rfl rfl ?_
        exact C6.retN (t := .boolean) at_63 rfl (by simp) (by decide) (by decide) (w := (1 : Int32)) rfl rfl
      · refine C6.iloadN at_40 rfl rfl ?_
        refine C6.callSP (w := (.int (f3 i0))) (hw _ (List.mem_of_getElem? (i := 7) rfl)) (hw _ (List.mem_of_getElem? (i := 8) rfl)) (hw _ (List.mem_of_getElem? (i := 2) rfl)) (hw _ (List.mem_of_getElem? (i := 9) rfl)) (by decide) (rm3 l Z a0 hw i0 h0 n0 C6.size) (argsL := [(.int i0)]) pd3 rfl 0 (by decide) (by decide) rfl rfl (by decide) (by decide) (rest := []) rfl rfl (Nat.le_of_eq rfl) at_41 rfl (fun T7 C7 => ?_)
        refine C7.if_ne at_44 (by decide) (by decide : _ = 49) rfl (fun c44 => ?_) (fun c44 => ?_)
        · refine C7.iloadN at_49 rfl rfl ?_
          refine C7.if_eq at_50 (by decide) (by decide : _ = 62) rfl (fun q => absurd q c37) (fun _ => ?_)
          refine C7.iloadN at_53 rfl rfl ?_
          refine C7.callSP (w := (.int (f2 i0))) (hw _ (List.mem_of_getElem? (i := 4) rfl)) (hw _ (List.mem_of_getElem? (i := 5) rfl)) (hw _ (List.mem_of_getElem? (i := 2) rfl)) (hw _ (List.mem_of_getElem? (i := 6) rfl)) (by decide) (rm2 l Z a0 hw i0 h0 n0 C7.size) (argsL := [(.int i0)]) pd2 rfl 0 (by decide) (by decide) rfl rfl (by decide) (by decide) (rest := []) rfl rfl (Nat.le_of_eq rfl) at_54 rfl (fun T8 C8 => ?_)
          refine C8.if_eq at_57 (by decide) (by decide : _ = 62) rfl (fun c57 => ?_) (fun c57 => ?_)
          · refine C8.iconst (1 : Int32) at_62 rfl rfl ?_
            exact C8.retN (t := .boolean) at_63 rfl (by simp) (by decide) (by decide) (w := (1 : Int32)) rfl rfl
          · refine C8.iconst (0 : Int32) at_60 rfl rfl ?_
            exact (own_bad0 i0 v2 v4 u5 hv2 hv4 hu5 c31 c37 c44 c57).elim
        · refine C7.iconst (0 : Int32) at_47 rfl rfl ?_
          exact (own_bad1 i0 v2 v4 u5 hv2 hv4 hu5 c31 c37 c44).elim
    · refine C6.iconst (0 : Int32) at_34 rfl rfl ?_
      exact (own_bad2 i0 v2 v4 u5 hv2 hv4 hu5 c31).elim
  refine C3.icmp_eq at_16 (by decide) (by decide : _ = 23) rfl (fun c16 => ?_) (fun c16 => ?_)
  · refine C3.iconst (1 : Int32) at_23 rfl rfl ?_
    refine C3.goto at_24 (by decide) (by decide : _ = 28) ?_
    exact J28 _ (1 : Int32) C3 (by simp only [if_pos c16])
  · refine C3.iloadN at_19 rfl rfl ?_
    refine C3.if_eq at_20 (by decide) (by decide : _ = 27) rfl (fun c20 => ?_) (fun c20 => ?_)
    · refine C3.iconst (0 : Int32) at_27 rfl rfl ?_
      exact J28 _ (0 : Int32) C3 (by simp only [if_neg c16, if_pos c20])
    · refine C3.iconst (1 : Int32) at_23 rfl rfl ?_
      refine C3.goto at_24 (by decide) (by decide : _ = 28) ?_
      exact J28 _ (1 : Int32) C3 (by simp only [if_neg c16, if_neg c20])
set_option maxRecDepth 65536 in
set_option maxHeartbeats 40000000 in
theorem comes_1 {Post : Tables → Env → Array Value → State → Outcome → State → Prop} (hpost : ∀ tb e args s v u, (limb_1_1.after args s (.returned v) u = true ∧ limb_1_2.after args s (.returned v) u = true ∧ True) → FrameEnd s (.returned v) u (Jvm.fieldLocs frame_1_writes args s ++ Jvm.arrayLocs frame_1_arrays args s ++ Jvm.staticLocs frame_1_statics s) 0 0 → Post tb e args s (.returned v) u) :
    ArmFor flags0 classFile x code maxLocals ret World_1 tables_1 room_1 Calls_1 rest_1 Pre_1 Post := by
  intro l hfl _ _ p e ha hc hk s m args below hf hA hF happ hP
  obtain ⟨hcalls, hrest, hpre⟩ := hP
  obtain ⟨-, -, -, hnamed, -, -, -, hat⟩ := (Spec.applies_iff hf).mp happ
  obtain ⟨hg, hn⟩ := and_e (Cond.before_iff.mp (show (Jvm.Cond.and given_1 narrow_1).before args s = true from hpre))
  obtain ⟨g1, g2⟩ := and_e hg
  obtain ⟨w0, rfl⟩ : ∃ w0 : Value, args = #[w0] := by
    have hs : args.size = 1 := by simpa [Cond.value, given_1] using g1
    obtain ⟨L⟩ := args
    match L, hs with
    | [w0], _ => exact ⟨w0, rfl⟩
  have hw := fun d (hd : d ∈ tables_1) => atoms_spec (ws := Jvm.Cond.code x code maxLocals ret :: tables_1) hat d (List.mem_cons_of_mem _ hd)
  have hfit : Fit s := fun {y c} hc i hi => by
    obtain ⟨ha, rfl⟩ := Array.getElem?_eq_some_iff.mp hc
    have q := List.all_eq_true.mp ((Array.all_eq_true_iff_forall_mem.mp hF) _ (Array.getElem_mem ha)) i (List.mem_range.mpr hi)
    simpa [Array.getElem?_eq_getElem hi] using q
  obtain ⟨i0, ei0⟩ := is_v g2
  obtain rfl : w0 = (.int i0) := Option.some.inj ei0
  obtain ⟨n, o, h1, h2, h3, _, L, rfl, ⟨⟨rfl, -⟩, N⟩, hq⟩ := rm0 l s _ hw i0 s.heap s.heap.size (Nat.le_refl _) tables_1 p e ha hc hk s m _ below hf ((Spec.applies_iff_loose hf).mp happ).1 ⟨rfl, State.Warmed39.refl s, rfl⟩ trivial
  refine ⟨n, _, h1, h2, h3, hpost _ _ _ _ _ _ ⟨Cond.after_iff.mpr rfl, Cond.after_iff.mpr (eq_i res_at (Term.int_eval (1)) rfl), trivial⟩ ⟨hq.1, hq.2.1, (hq.2.2.sift fun y hy => Or.inr (N y hy)).mono (by decide) (by decide)⟩⟩
theorem main_1_1 : Claimed_1_1 := comes_1 fun _ _ _ _ _ _ h hF => ⟨h.1, hF⟩
theorem main_1_2 : Claimed_1_2 := comes_1 fun _ _ _ _ _ _ h hF => ⟨h.2.1, hF⟩
end Jvm.Pilot.@@N@@
namespace Jvm.Pilot.@@N@@
open Jvm Jvm.ClassFile Sem Op Lib Jvm.Free Jvm.Stand Jvm.Pilot.@@N@@.Jvm.D
/-! MADE BY PROGRAM (witnessworld.py) out of the Statement's table words and the real class files: 9 classes; the members and pool entries that the words name. The judged class is class 1, her method 1. -/
namespace start1
open Jvm.ClassFile
def u (s : String) : CpInfo := .utf8 (stringToUtf16 s)
/-- a pool by its gaps: so many unusable entries, then the entry; so many at the end -/
def gap : Nat → List CpInfo → List CpInfo
  | 0, r => r
  | n + 1, r => .unusable :: gap n r
def poolList (es : List (Nat × CpInfo)) (last : Nat) : List CpInfo := es.foldr (fun e r => gap e.1 (e.2 :: r)) (gap last [])
def pool (es : List (Nat × CpInfo)) (last : Nat) : Array CpInfo := ⟨poolList es last⟩
def fileOf (pool : Array CpInfo) (this : Nat) (attrs : Array Attribute := #[]) (ms : Array MethodInfo := #[]) (fl : Nat := 33) (sup : Nat := 0) (ifs : Array Nat := #[]) (fds : Array FieldInfo := #[]) : ClassFile where
  minorVersion := 0
  majorVersion := 65
  constantPool := pool
  accessFlags := fl
  thisClass := this
  superClass := sup
  interfaces := ifs
  fields := fds
  methods := ms
  attributes := attrs
def plain (name : String) (sup : Option ClassId) : Class where
  name := name
  kind := .ordinary
  loader := none
  accessFlags := 33
  super := sup
  interfaces := #[]
  cf := none
  fields := #[]
  methods := #[]
  instanceTypes := #[]
  staticTypes := #[]
  resolved := #[]
  callSites := []
  init := .initialized
  statics := none
  mirror := none

def pool0 : Array CpInfo := pool [(5, u "<init>"), (0, u "()V"), (1, .class_ 10), (1, u "java/lang/Object")] 113

def k0m0 : Method := { name := "<init>", desc := "()V", sig := { parameters := [], returnType := none }, accessFlags := 1, code := none }
/-- java/lang/Object -/
def k0 : Class := { plain "java/lang/Object" none with
  accessFlags := 33
  interfaces := #[]
  cf := some (fileOf pool0 8 #[] #[{ accessFlags := 1, nameIndex := 5, descriptorIndex := 6, attributes := #[] }] 33 0 #[] #[])
  fields := #[]
  methods := #[k0m0]
  instanceTypes := #[]
  staticTypes := #[]
  resolved := Array.replicate 124 none
  statics := none }

def pool1 : Array CpInfo := pool [(2, .class_ 4), (1, u "java/lang/Object"), (0, u "<init>"), (0, u "()V"), (0, .methodref 8 9), (0, .class_ 10), (0, .nameAndType 11 12), (0, u "com/example/nestor/nestor/lang/Identifiers"), (0, u "isVariableStart"), (0, u "(I)Z"), (0, .methodref 8 14), (0, .nameAndType 15 12), (0, u "isStart"), (0, .methodref 8 17), (0, .nameAndType 18 12), (0, u "isPart"), (0, .class_ 20), (0, u "com/example/nestor/nestor/lang/IdentifiersIsVariableStartPinLaw"), (2, u "law")] 3

def k1m0 : Method := { name := "<init>", desc := "()V", sig := { parameters := [], returnType := none }, accessFlags := 2, code := none }
def k1c1 : Code := { maxStack := 2, maxLocals := 4, code := code, exceptionTable := #[], attributes := #[] }
def k1m1 : Method := { name := "law", desc := "(I)Z", sig := { parameters := [.int], returnType := some .boolean }, accessFlags := 9, code := some k1c1 }
/-- com/example/nestor/nestor/lang/IdentifiersIsVariableStartPinLaw -/
def k1 : Class := { plain "com/example/nestor/nestor/lang/IdentifiersIsVariableStartPinLaw" (some 0) with
  accessFlags := 49
  interfaces := #[]
  cf := some (fileOf pool1 19 #[] #[{ accessFlags := 2, nameIndex := 5, descriptorIndex := 6, attributes := #[] }, { accessFlags := 9, nameIndex := 23, descriptorIndex := 12, attributes := #[] }] 49 2 #[] #[])
  fields := #[]
  methods := #[k1m0, k1m1]
  instanceTypes := #[]
  staticTypes := #[]
  resolved := Array.replicate 27 none
  statics := none }

def pool2 : Array CpInfo := pool [(2, .class_ 4), (1, u "java/lang/Object"), (0, u "<init>"), (0, u "()V"), (11, .class_ 20), (1, u "com/example/nestor/nestor/lang/Identifiers"), (0, u "isStart"), (0, u "(I)Z"), (6, u "isVariableStart"), (6, u "isPart")] 7

def k2m0 : Method := { name := "<init>", desc := "()V", sig := { parameters := [], returnType := none }, accessFlags := 2, code := none }
def k2c1 : Code := { maxStack := 2, maxLocals := 1, code := prog_47_method_2_code, exceptionTable := #[], attributes := #[] }
def k2m1 : Method := { name := "isStart", desc := "(I)Z", sig := { parameters := [.int], returnType := some .boolean }, accessFlags := 8, code := some k2c1 }
def k2c2 : Code := { maxStack := 2, maxLocals := 1, code := prog_47_method_3_code, exceptionTable := #[], attributes := #[] }
def k2m2 : Method := { name := "isVariableStart", desc := "(I)Z", sig := { parameters := [.int], returnType := some .boolean }, accessFlags := 8, code := some k2c2 }
def k2c3 : Code := { maxStack := 2, maxLocals := 1, code := prog_47_method_4_code, exceptionTable := #[], attributes := #[] }
def k2m3 : Method := { name := "isPart", desc := "(I)Z", sig := { parameters := [.int], returnType := some .boolean }, accessFlags := 8, code := some k2c3 }
/-- com/example/nestor/nestor/lang/Identifiers -/
def k2 : Class := { plain "com/example/nestor/nestor/lang/Identifiers" (some 0) with
  accessFlags := 32
  interfaces := #[]
  cf := some (fileOf pool2 18 #[] #[{ accessFlags := 2, nameIndex := 5, descriptorIndex := 6, attributes := #[] }, { accessFlags := 8, nameIndex := 21, descriptorIndex := 22, attributes := #[] }, { accessFlags := 8, nameIndex := 29, descriptorIndex := 22, attributes := #[] }, { accessFlags := 8, nameIndex := 36, descriptorIndex := 22, attributes := #[] }] 32 2 #[] #[])
  fields := #[]
  methods := #[k2m0, k2m1, k2m2, k2m3]
  instanceTypes := #[]
  staticTypes := #[]
  resolved := Array.replicate 44 none
  statics := none }

def pool3 : Array CpInfo := pool [(1, u "java/lang/Cloneable"), (0, .class_ 1), (0, u "java/lang/Object"), (0, .class_ 3)] 3

/-- java/lang/Cloneable -/
def k3 : Class := { plain "java/lang/Cloneable" (some 0) with
  accessFlags := 1537
  interfaces := #[]
  cf := some (fileOf pool3 2 #[] #[] 1537 4 #[] #[])
  fields := #[]
  methods := #[]
  instanceTypes := #[]
  staticTypes := #[]
  resolved := Array.replicate 8 none
  statics := none }

def pool4 : Array CpInfo := pool [(1, u "java/io/Serializable"), (0, .class_ 1), (0, u "java/lang/Object"), (0, .class_ 3)] 3

/-- java/io/Serializable -/
def k4 : Class := { plain "java/io/Serializable" (some 0) with
  accessFlags := 1537
  interfaces := #[]
  cf := some (fileOf pool4 2 #[] #[] 1537 4 #[] #[])
  fields := #[]
  methods := #[]
  instanceTypes := #[]
  staticTypes := #[]
  resolved := Array.replicate 8 none
  statics := none }

/-- the primitive byte -/
def k5 : Class := { plain "byte" none with kind := .primitive 'B', accessFlags := 0x411 }
/-- [B -/
def k6 : Class := { plain "[B" (some 0) with kind := .array 5 .byte, interfaces := #[3, 4], accessFlags := 1041 }

/-- the primitive int -/
def k7 : Class := { plain "int" none with kind := .primitive 'I', accessFlags := 0x411 }
/-- [I -/
def k8 : Class := { plain "[I" (some 0) with kind := .array 7 .int, interfaces := #[3, 4], accessFlags := 1041 }

def heap : Heap := #[]
def classes : Array Class := #[k0, k1, k2, k3, k4, k5, k6, k7, k8]
def interned : List (Array UInt16 × Addr) := []
def slotsUsed : Nat := 0
def theMethod : MethodId := ⟨1, 1⟩
def args0 : Array Value := #[.int 70]
def aboutOver (below : List Frame) : State where
  vm := { classes := classes, interned := interned.toArray }
  heap := heap
  slotsUsed := slotsUsed
  threads := #[{ frames := .invoking theMethod args0 :: below }]
def below0 : List Frame := [.native { method := ⟨0, 0⟩, args := #[] }]
def about1 : State := aboutOver below0
def p0 : Program := .bare "" "" ""
def e0 : Env := launch0.env 0 0 0
theorem w_frames : about1.frames = Frame.invoking theMethod args0 :: below0 := rfl
set_option maxRecDepth 65536 in
theorem w_args : argsFit about1.vm theMethod args0 = true := by decide +kernel
set_option maxRecDepth 65536 in
theorem w_heap : heapFits about1 = true := by decide +kernel
set_option maxRecDepth 65536 in
theorem w_runnable : about1.curStatus? = some .runnable := by decide +kernel
set_option maxRecDepth 65536 in
theorem w_alone : about1.alone = true := by decide +kernel
set_option maxRecDepth 65536 in
theorem w_named : about1.methodNamed? x = some theMethod := by decide +kernel
set_option maxRecDepth 65536 in
theorem w_hears : about1.hears theMethod below0 = true := by decide +kernel
set_option maxRecDepth 65536 in
theorem w_ripe : about1.ripe theMethod args0 below0 = true := by decide +kernel
theorem w_running : about1.status = .running := rfl
set_option maxRecDepth 65536 in
theorem w_room : about1.hasRoom e0.platform room_1 = true :=
  launch0.hasRoom_least _ room_1 (by decide +kernel) (by decide +kernel) (by decide +kernel) (by decide +kernel) (by decide +kernel) (by decide +kernel)
theorem allAtoms_all (ts : List Jvm.Cond) (a : Array Jvm.Value) (st : Jvm.State) : (allAtoms ts).before a st = ts.all (fun c => c.before a st) := by
  induction ts with
  | nil => rfl
  | cons c t ih =>
    show (Jvm.Cond.and c (allAtoms t)).before a st = _
    rw [Jvm.Cond.before_and, ih, List.all_cons]
def words1 : List Jvm.Cond := Jvm.Cond.code x code maxLocals ret :: tables_1
/-- a 'code' word, met by the world's own term for the bytes: nothing is compared byte by byte -/
theorem code_word {y : MethodName} {bytes : ByteArray} {mx : Nat} {rt : Option FieldType} {a : Array Value} {s : State} {m : MethodId} {meth : Method} {c : Code} (h1 : s.methodNamed? y = some m) (h2 : s.vm.method? m = some meth) (h3 : meth.code = some c) (h4 : c.code = bytes)
    (h5 : (c.maxLocals == mx && c.exceptionTable.isEmpty && decide (c.maxStack ≤ mostOperands) && decide (meth.sig.returnType = rt) && !meth.locks && decide (parseMethodDescriptor y.desc = some meth.sig)) = true) : (Jvm.Cond.code y bytes mx rt).before a s = true := by
  simp only [Bool.and_eq_true, beq_iff_eq, Bool.not_eq_true', decide_eq_true_eq] at h5
  obtain ⟨⟨⟨⟨⟨g1, g2⟩, g3⟩, g4⟩, g5⟩, g6⟩ := h5
  simp [Cond.before, Cond.holds, Cond.value, h1, h2, h3, h4, g1, g2, g3, g4, g5, g6]
def isCode : Jvm.Cond → Bool
  | .code _ _ _ _ => true
  | _ => false
theorem all_split {L : List Jvm.Cond} {P : Jvm.Cond → Bool} (h1 : L.all (fun c => isCode c || P c) = true) (h2 : ∀ c ∈ L.filter isCode, P c = true) : L.all P = true := by
  refine List.all_eq_true.mpr fun c hc => ?_
  have h := List.all_eq_true.mp h1 c hc
  rcases Bool.eq_false_or_eq_true (isCode c) with hi | hi
  · exact h2 c (List.mem_filter.mpr ⟨hc, hi⟩)
  · simpa [hi] using h
set_option maxRecDepth 65536 in
theorem w_c0 : (Jvm.Cond.code x code maxLocals ret).before args0 about1 = true := code_word (m := ⟨1, 1⟩) (meth := k1m1) (c := k1c1) (by decide +kernel) rfl rfl rfl (by decide +kernel)
set_option maxRecDepth 65536 in
theorem w_c1 : (Jvm.Cond.code ({ cls := "com/example/nestor/nestor/lang/Identifiers", name := "isVariableStart", desc := "(I)Z" } : Jvm.MethodName) prog_47_method_3_code (1 : Nat) (Option.some Jvm.ClassFile.FieldType.boolean)).before args0 about1 = true := code_word (m := ⟨2, 2⟩) (meth := k2m2) (c := k2c2) (by decide +kernel) rfl rfl rfl (by decide +kernel)
set_option maxRecDepth 65536 in
theorem w_c2 : (Jvm.Cond.code ({ cls := "com/example/nestor/nestor/lang/Identifiers", name := "isStart", desc := "(I)Z" } : Jvm.MethodName) prog_47_method_2_code (1 : Nat) (Option.some Jvm.ClassFile.FieldType.boolean)).before args0 about1 = true := code_word (m := ⟨2, 1⟩) (meth := k2m1) (c := k2c1) (by decide +kernel) rfl rfl rfl (by decide +kernel)
set_option maxRecDepth 65536 in
theorem w_c3 : (Jvm.Cond.code ({ cls := "com/example/nestor/nestor/lang/Identifiers", name := "isPart", desc := "(I)Z" } : Jvm.MethodName) prog_47_method_4_code (1 : Nat) (Option.some Jvm.ClassFile.FieldType.boolean)).before args0 about1 = true := code_word (m := ⟨2, 3⟩) (meth := k2m3) (c := k2c3) (by decide +kernel) rfl rfl rfl (by decide +kernel)
def codes1 : List Jvm.Cond := [Jvm.Cond.code x code maxLocals ret, Jvm.Cond.code ({ cls := "com/example/nestor/nestor/lang/Identifiers", name := "isVariableStart", desc := "(I)Z" } : Jvm.MethodName) prog_47_method_3_code (1 : Nat) (Option.some Jvm.ClassFile.FieldType.boolean), Jvm.Cond.code ({ cls := "com/example/nestor/nestor/lang/Identifiers", name := "isStart", desc := "(I)Z" } : Jvm.MethodName) prog_47_method_2_code (1 : Nat) (Option.some Jvm.ClassFile.FieldType.boolean), Jvm.Cond.code ({ cls := "com/example/nestor/nestor/lang/Identifiers", name := "isPart", desc := "(I)Z" } : Jvm.MethodName) prog_47_method_4_code (1 : Nat) (Option.some Jvm.ClassFile.FieldType.boolean)]
set_option maxRecDepth 65536 in
theorem codes_eq : words1.filter isCode = codes1 := rfl
theorem w_codes : ∀ c ∈ words1.filter isCode, c.before args0 about1 = true := by
  rw [codes_eq]
  intro c hc
  simp only [codes1, List.mem_cons, List.not_mem_nil, or_false] at hc
  rcases hc with rfl | rfl | rfl | rfl
  · exact w_c0
  · exact w_c1
  · exact w_c2
  · exact w_c3
set_option maxRecDepth 65536 in
theorem w_t1 : words1.all (fun c => isCode c || c.before args0 about1) = true := by decide +kernel
theorem w_tables : (allAtoms (Jvm.Cond.code x code maxLocals ret :: tables_1)).before args0 about1 = true := by
  rw [allAtoms_all]
  show words1.all (fun c => c.before args0 about1) = true
  refine all_split ?_ w_codes
  rw [w_t1]
set_option maxRecDepth 65536 in
theorem w_case : (Jvm.Cond.and given_1 narrow_1).before args0 about1 = true := by decide +kernel
theorem w_applies : (headSpec (Jvm.Cond.code x code maxLocals ret :: tables_1) room_1).applies x e0.platform about1 = true :=
  (Spec.applies_iff w_frames).mpr ⟨w_running, w_runnable, w_alone, w_named, w_hears, w_ripe, w_room, w_tables⟩
theorem atStart : AtStart classFile x code maxLocals ret World_1 tables_1 room_1 Calls_1 rest_1 Pre_1 launch0 p0 e0 about1 theMethod args0 below0 :=
  ⟨lists_1, trivial, launch0.admits_env _ _ _, launch0.least_env, fairChoices_fair.cas, fairChoices_fair.clock, w_frames, w_args, w_heap, w_applies, trivial, trivial, w_case⟩
end start1
theorem witness_1 : WitnessClaimed_1 := ⟨start1.p0, start1.e0, start1.about1, start1.theMethod, start1.args0, start1.below0, start1.atStart⟩
end Jvm.Pilot.@@N@@
