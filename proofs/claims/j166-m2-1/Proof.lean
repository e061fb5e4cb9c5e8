import JvmDerived
import JvmDerived.Pilot.@@N@@Statement
import JvmDerived.Pilot.@@N@@Code
set_option linter.unusedVariables false
set_option linter.unusedSimpArgs false
namespace Jvm.Ow
open Sem ClassFile Op Lib Jvm.Stand Jvm.Free Jvm.LawKit Jvm.RoadKit
def WideEnd (s : State) (o : Outcome) (t : State) (L : List Loc) (k n : Nat) : Prop :=
  (∃ v : Option Value, o = Outcome.returned v) ∧ s.Warmed39 t.vm ∧ (∀ (j : Nat) (p : Array UInt16 × Addr), s.vm.interned.size ≤ j → t.vm.interned[j]? = some p → s.heap.size ≤ p.2 ∧ p.2 < t.heap.size) ∧ s.sameButNew { t with vm := s.vm } L k n
def EndF (wd : Bool) (s : State) (o : Outcome) (t : State) (L : List Loc) (k n : Nat) : Prop := match wd with
  | true => WideEnd s o t L k n
  | false => FrameEnd s o t L k n
theorem EndF.of {wd : Bool} {s : State} {o : Outcome} {t : State} {L : List Loc} {k n : Nat} (h : FrameEnd s o t L k n) : EndF wd s o t L k n := by
  cases wd
  · exact h
  · exact wide h
def Cx (p : Program) (l : Launch) (e : Env) (R : Room) (m : MethodId) (args : Array Value) (below : List Frame) (meth : Method) (c : Code) (Z : State) (y : MethodName) (bytes : ByteArray) (ml : Nat) (ret : Option FieldType) (n0 : Nat) (wd : Bool) (F : Outcome → State → List Loc → Prop) (T : State) (h : Heap) (cells slots : Nat) : Prop :=
  ∃ s locs, Stand p l e R s m args below meth c T locs cells slots ∧ p.tables.exec = Jvm.exec ∧ c.code = bytes ∧ c.maxLocals = ml ∧ Z.Warmed39 s.vm ∧ s.vm.findClass y.cls = some m.cls ∧ meth.name = y.name ∧ meth.sig.returnType = ret ∧ meth.locks = false ∧ T.heap = h ∧ Fr n0 locs ∧ n0 ≤ s.heap.size ∧ ∀ o t L, h.size ≤ t.heap.size → EndF wd s o t L R.cells R.slots → F o t L
def Go (p : Program) (e : Env) (below : List Frame) (F : Outcome → State → List Loc → Prop) (n0 : Nat) (Q : Option Value → Heap → Prop) (T : State) (f : JFrame) : Prop :=
  ∃ s₂ o, Steps p.tables e below (T.setTop f) s₂ ∧ s₂.status = .running ∧ Ended s₂ below o ∧ ∃ v L, o = .returned v ∧ (Q v s₂.heap ∧ Fr n0 L ∧ n0 ≤ s₂.heap.size) ∧ F o s₂ L
def Ctr (l : Launch) (Z : State) (y : MethodName) (bytes : ByteArray) (ml : Nat) (ret : Option FieldType) (R : Room) (as' : Array Value) (h : Heap) (n0 : Nat) (Q : Option Value → Heap → Prop) : Prop :=
  ∀ ws : List Jvm.Cond, MetFree l y (head1 (Jvm.Cond.code y bytes ml ret :: ws) R) (fun a U => a = as' ∧ Z.Warmed39 U.vm ∧ U.heap = h) (fun _ _ _ _ _ => True) (fun _ U o U' => ∃ v L, o = .returned v ∧ ((Q v U'.heap ∧ h.size ≤ U'.heap.size) ∧ Fr n0 L) ∧ FrameEnd U o U' L R.cells R.slots)
section Layer
variable {p : Program} {l : Launch} {e : Env} {R : Room} {m : MethodId} {args : Array Value} {below : List Frame} {meth : Method} {c : Code} {T T' : State} {cells slots : Nat} {Z : State} {a0 : Array Value} {h : Heap} {y : MethodName} {bytes : ByteArray} {ml n0 : Nat} {ret : Option FieldType} {wd : Bool} {F : Outcome → State → List Loc → Prop} {Q : Option Value → Heap → Prop} {pc pc' : Nat} {L L' : Array Slot} {S : List Value}
theorem Ctr.body {as' : Array Value} (hpl : plainFor y = true) (hn : n0 ≤ h.size) (ef : ∀ m, entryFrame m as' ml = mkF m 0 L [])
    (k : ∀ (p : Program) (e : Env) (F : Outcome → State → List Loc → Prop) (m : MethodId) (below : List Frame) (meth : Method) (c : Code) (T : State), Cx p l e R m as' below meth c Z y bytes ml ret n0 false F T h 0 0 → Go p e below F n0 Q T (mkF m 0 L [])) : Ctr l Z y bytes ml ret R as' h n0 Q := by
  intro ws
  refine MetFree.of_bodySF hpl hisR ?_
  intro p e s m args below meth c s₁ Bd hml0 hP hK
  obtain ⟨rfl, hZ, hh⟩ := hP
  obtain ⟨s₂, o, g1, g2, g3, v, L9, g4, ⟨g5, g6, -⟩, g7⟩ := k p e (fun o t L => FrameEnd s o t L R.cells R.slots) m below meth c s₁ ⟨s, [], Stand.of_body Bd, Bd.exec, Bd.bytes, hml0, hZ, findClass_of_methodNamed Bd.named, (name_of_methodNamed Bd.named Bd.method).1, Bd.returns, Bd.notSynchronized, by rw [← hh, Bd.state]; rfl, Fr.nil n0, by rw [hh]; exact hn, fun _ _ _ _ q => q⟩
  rw [ef m]
  exact ⟨s₂, o, g1, g2, g3, v, L9, g4, ⟨⟨g5, by rw [← hh]; exact g7.2.2.2.1⟩, g6⟩, g7⟩
theorem Go.via {f f' : JFrame} (k : Go p e below F n0 Q T' f') (hs : ∀ t, Steps p.tables e below (T'.setTop f') t → Steps p.tables e below (T.setTop f) t) : Go p e below F n0 Q T f := by
  obtain ⟨s₂, o, h1, h2⟩ := k; exact ⟨s₂, o, hs _ h1, h2⟩
theorem Cx.size (C : Cx p l e R m args below meth c Z y bytes ml ret n0 wd F T h cells slots) : n0 ≤ h.size := by
  obtain ⟨s, locs, X, -, -, -, -, -, -, -, -, rfl, -, hn, -⟩ := C
  exact Nat.le_trans hn X.same.2.1
theorem Cx.iloadN (C : Cx p l e R m args below meth c Z y bytes ml ret n0 wd F T h cells slots) {k : Fin 4} {v : Int32} (hd : decode bytes pc = .ok (.iload_n k, 1)) (hp : pc + 1 = pc') (hl : L[k.val]? = some (.val (.int v))) (K : Go p e below F n0 Q T (mkF m pc' L (.int v :: S))) : Go p e below F n0 Q T (mkF m pc L S) := by
  obtain ⟨s, locs, X, hx, rfl, -⟩ := C; subst hp
  exact K.via fun t k => XS.iloadN X.here hx rfl hd hl k
theorem Cx.iload (C : Cx p l e R m args below meth c Z y bytes ml ret n0 wd F T h cells slots) {k : Nat} {v : Int32} (hd : decode bytes pc = .ok (.iload k, 2)) (hp : pc + 2 = pc') (hl : L[k]? = some (.val (.int v))) (K : Go p e below F n0 Q T (mkF m pc' L (.int v :: S))) : Go p e below F n0 Q T (mkF m pc L S) := by
  obtain ⟨s, locs, X, hx, rfl, -⟩ := C; subst hp
  exact K.via fun t k => XS.iload X.here hx rfl hd hl k
theorem Cx.istore (C : Cx p l e R m args below meth c Z y bytes ml ret n0 wd F T h cells slots) {k : Nat} {x : Int32} (hd : decode bytes pc = .ok (.istore k, 2)) (hp : pc + 2 = pc') (hl : storeLocals L k (.int x) = some L') (K : Go p e below F n0 Q T (mkF m pc' L' S)) : Go p e below F n0 Q T (mkF m pc L (.int x :: S)) := by
  obtain ⟨s, locs, X, hx, rfl, -⟩ := C; subst hp
  exact K.via fun t k => XS.istore X.here hx rfl hd rfl hl k
theorem Cx.istoreV (C : Cx p l e R m args below meth c Z y bytes ml ret n0 wd F T h cells slots) {k : Nat} {x : Int32} (Lf : Int32 → Array Slot) (hd : decode bytes pc = .ok (.istore k, 2)) (hp : pc + 2 = pc') (hl : ∀ v, storeLocals L k (.int v) = some (Lf v)) (K : ∀ v, v = x → Go p e below F n0 Q T (mkF m pc' (Lf v) S)) : Go p e below F n0 Q T (mkF m pc L (.int x :: S)) :=
  C.istore hd hp (hl x) (K x rfl)
theorem Cx.aloadN (C : Cx p l e R m args below meth c Z y bytes ml ret n0 wd F T h cells slots) {k : Fin 4} {v : Value} (hd : decode bytes pc = .ok (.aload_n k, 1)) (hp : pc + 1 = pc') (hl : L[k.val]? = some (.val v)) (hv : v.isRef = true) (K : Go p e below F n0 Q T (mkF m pc' L (v :: S))) : Go p e below F n0 Q T (mkF m pc L S) := by
  obtain ⟨s, locs, X, hx, rfl, -⟩ := C; subst hp
  exact K.via fun t k => XS.aloadN X.here hx rfl hd hl hv k
theorem Cx.aload (C : Cx p l e R m args below meth c Z y bytes ml ret n0 wd F T h cells slots) {k : Nat} {v : Value} (hd : decode bytes pc = .ok (.aload k, 2)) (hp : pc + 2 = pc') (hl : L[k]? = some (.val v)) (hv : v.isRef = true) (K : Go p e below F n0 Q T (mkF m pc' L (v :: S))) : Go p e below F n0 Q T (mkF m pc L S) := by
  obtain ⟨s, locs, X, hx, rfl, -⟩ := C; subst hp
  exact K.via fun t k => XS.aload X.here hx rfl hd hl hv k
theorem Cx.astore (C : Cx p l e R m args below meth c Z y bytes ml ret n0 wd F T h cells slots) {k : Nat} {x : Value} (hd : decode bytes pc = .ok (.astore k, 2)) (hp : pc + 2 = pc') (hv : x.isRef = true) (hl : storeLocals L k x = some L') (K : Go p e below F n0 Q T (mkF m pc' L' S)) : Go p e below F n0 Q T (mkF m pc L (x :: S)) := by
  obtain ⟨s, locs, X, hx, rfl, -⟩ := C; subst hp
  exact K.via fun t k => XS.astore X.here hx rfl hd rfl hv hl k
theorem Cx.iconst (C : Cx p l e R m args below meth c Z y bytes ml ret n0 wd F T h cells slots) {i : Int} (v : Int32) (hd : decode bytes pc = .ok (.iconst i, 1)) (hp : pc + 1 = pc') (hv : Int32.ofInt i = v) (K : Go p e below F n0 Q T (mkF m pc' L (.int v :: S))) : Go p e below F n0 Q T (mkF m pc L S) := by
  obtain ⟨s, locs, X, hx, rfl, -⟩ := C; subst hp
  exact K.via fun t k => XT.iconstV X.here hx rfl v hd hv k
theorem Cx.sipush (C : Cx p l e R m args below meth c Z y bytes ml ret n0 wd F T h cells slots) {i : Int} (v : Int32) (hd : decode bytes pc = .ok (.sipush i, 3)) (hp : pc + 3 = pc') (hv : (Int16.ofInt i).toInt32 = v) (K : Go p e below F n0 Q T (mkF m pc' L (.int v :: S))) : Go p e below F n0 Q T (mkF m pc L S) := by
  obtain ⟨s, locs, X, hx, rfl, -⟩ := C; subst hp
  exact K.via fun t k => XT.sipushV X.here hx rfl v hd hv k
theorem Cx.iadd (C : Cx p l e R m args below meth c Z y bytes ml ret n0 wd F T h cells slots) {x z : Int32} (hd : decode bytes pc = .ok (.iadd, 1)) (hp : pc + 1 = pc')  (K : Go p e below F n0 Q T (mkF m pc' L (.int (x + z) :: S))) : Go p e below F n0 Q T (mkF m pc L (.int z :: .int x :: S)) := by
  obtain ⟨s, locs, X, hx, rfl, -⟩ := C; subst hp
  exact K.via fun t k => XS.iadd X.here hx rfl hd rfl k
theorem Cx.iand (C : Cx p l e R m args below meth c Z y bytes ml ret n0 wd F T h cells slots) {x z : Int32} (hd : decode bytes pc = .ok (.iand, 1)) (hp : pc + 1 = pc')  (K : Go p e below F n0 Q T (mkF m pc' L (.int (x &&& z) :: S))) : Go p e below F n0 Q T (mkF m pc L (.int z :: .int x :: S)) := by
  obtain ⟨s, locs, X, hx, rfl, -⟩ := C; subst hp
  exact K.via fun t k => XS.iand X.here hx rfl hd rfl k
theorem Cx.i2b (C : Cx p l e R m args below meth c Z y bytes ml ret n0 wd F T h cells slots) {x : Int32} (hd : decode bytes pc = .ok (.i2b, 1)) (hp : pc + 1 = pc')  (K : Go p e below F n0 Q T (mkF m pc' L (.int (x.toInt8.toInt32) :: S))) : Go p e below F n0 Q T (mkF m pc L (.int x :: S)) := by
  obtain ⟨s, locs, X, hx, rfl, -⟩ := C; subst hp
  exact K.via fun t k => XT.i2b X.here hx rfl hd rfl k
theorem Cx.i2c (C : Cx p l e R m args below meth c Z y bytes ml ret n0 wd F T h cells slots) {x : Int32} (hd : decode bytes pc = .ok (.i2c, 1)) (hp : pc + 1 = pc')  (K : Go p e below F n0 Q T (mkF m pc' L (.int (x.toUInt32.toUInt16.toUInt32.toInt32) :: S))) : Go p e below F n0 Q T (mkF m pc L (.int x :: S)) := by
  obtain ⟨s, locs, X, hx, rfl, -⟩ := C; subst hp
  exact K.via fun t k => XT.i2c X.here hx rfl hd rfl k
theorem Cx.dup (C : Cx p l e R m args below meth c Z y bytes ml ret n0 wd F T h cells slots) {x : Value} (hd : decode bytes pc = .ok (.dup, 1)) (hp : pc + 1 = pc') (hc : x.category = 1) (K : Go p e below F n0 Q T (mkF m pc' L (x :: x :: S))) : Go p e below F n0 Q T (mkF m pc L (x :: S)) := by
  obtain ⟨s, locs, X, hx, rfl, -⟩ := C; subst hp
  exact K.via fun t k => XS.dup X.here hx rfl hd rfl hc k
theorem Cx.dupX1 (C : Cx p l e R m args below meth c Z y bytes ml ret n0 wd F T h cells slots) {x z : Value} (hd : decode bytes pc = .ok (.dup_x1, 1)) (hp : pc + 1 = pc') (hc : x.category = 1) (hc' : z.category = 1) (K : Go p e below F n0 Q T (mkF m pc' L (x :: z :: x :: S))) : Go p e below F n0 Q T (mkF m pc L (x :: z :: S)) := by
  obtain ⟨s, locs, X, hx, rfl, -⟩ := C; subst hp
  exact K.via fun t k => XT.dupX1 X.here hx rfl hd rfl hc hc' k
theorem Cx.goto (C : Cx p l e R m args below meth c Z y bytes ml ret n0 wd F T h cells slots) {o : Int} (hd : decode bytes pc = .ok (.goto o, 3)) (ho : 0 ≤ (pc : Int) + o) (hp : ((pc : Int) + o).toNat = pc') (K : Go p e below F n0 Q T (mkF m pc' L S)) : Go p e below F n0 Q T (mkF m pc L S) := by
  obtain ⟨s, locs, X, hx, rfl, -⟩ := C
  exact K.via fun t k => XS.goto X.here hx rfl rfl hd ho hp k
theorem Cx.if_eq (C : Cx p l e R m args below meth c Z y bytes ml ret n0 wd F T h cells slots) {x : Int32} {o : Int} {py pn : Nat} (hd : decode bytes pc = .ok (.ifCond .eq o, 3)) (ho : 0 ≤ (pc : Int) + o) (hy : ((pc : Int) + o).toNat = py) (hn : pc + 3 = pn) (K1 : x = (0 : Int32) → Go p e below F n0 Q T (mkF m py L S)) (K2 : ¬ x = (0 : Int32) → Go p e below F n0 Q T (mkF m pn L S)) : Go p e below F n0 Q T (mkF m pc L (.int x :: S)) := by
  obtain ⟨s, locs, X, hx, rfl, -⟩ := C; subst hn
  by_cases q : x = (0 : Int32)
  · exact (K1 q).via fun t k => XS.ifYes X.here hx rfl rfl hd rfl (XT.i0_eq_t q) ho hy k
  · exact (K2 q).via fun t k => XS.ifNo X.here hx rfl hd rfl (XT.i0_eq_f q) k
theorem Cx.if_ne (C : Cx p l e R m args below meth c Z y bytes ml ret n0 wd F T h cells slots) {x : Int32} {o : Int} {py pn : Nat} (hd : decode bytes pc = .ok (.ifCond .ne o, 3)) (ho : 0 ≤ (pc : Int) + o) (hy : ((pc : Int) + o).toNat = py) (hn : pc + 3 = pn) (K1 : ¬ x = (0 : Int32) → Go p e below F n0 Q T (mkF m py L S)) (K2 : x = (0 : Int32) → Go p e below F n0 Q T (mkF m pn L S)) : Go p e below F n0 Q T (mkF m pc L (.int x :: S)) := by
  obtain ⟨s, locs, X, hx, rfl, -⟩ := C; subst hn
  by_cases q : x = (0 : Int32)
  · exact (K2 q).via fun t k => XS.ifNo X.here hx rfl hd rfl (XT.i0_ne_f q) k
  · exact (K1 q).via fun t k => XS.ifYes X.here hx rfl rfl hd rfl (XT.i0_ne_t q) ho hy k
theorem Cx.icmp_ge (C : Cx p l e R m args below meth c Z y bytes ml ret n0 wd F T h cells slots) {x z : Int32} {o : Int} {py pn : Nat} (hd : decode bytes pc = .ok (.if_icmp .ge o, 3)) (ho : 0 ≤ (pc : Int) + o) (hy : ((pc : Int) + o).toNat = py) (hn : pc + 3 = pn) (K1 : ¬ x < z → Go p e below F n0 Q T (mkF m py L S)) (K2 : x < z → Go p e below F n0 Q T (mkF m pn L S)) : Go p e below F n0 Q T (mkF m pc L (.int z :: .int x :: S)) := by
  obtain ⟨s, locs, X, hx, rfl, -⟩ := C; subst hn
  by_cases q : x < z
  · exact (K2 q).via fun t k => XS.icmpNo X.here hx rfl hd rfl (XT.ii_ge_f q) k
  · exact (K1 q).via fun t k => XS.icmpYes X.here hx rfl rfl hd rfl (XT.ii_ge_t q) ho hy k
theorem Cx.icmp_gt (C : Cx p l e R m args below meth c Z y bytes ml ret n0 wd F T h cells slots) {x z : Int32} {o : Int} {py pn : Nat} (hd : decode bytes pc = .ok (.if_icmp .gt o, 3)) (ho : 0 ≤ (pc : Int) + o) (hy : ((pc : Int) + o).toNat = py) (hn : pc + 3 = pn) (K1 : z < x → Go p e below F n0 Q T (mkF m py L S)) (K2 : ¬ z < x → Go p e below F n0 Q T (mkF m pn L S)) : Go p e below F n0 Q T (mkF m pc L (.int z :: .int x :: S)) := by
  obtain ⟨s, locs, X, hx, rfl, -⟩ := C; subst hn
  by_cases q : z < x
  · exact (K1 q).via fun t k => XS.icmpYes X.here hx rfl rfl hd rfl (XT.ii_gt_t q) ho hy k
  · exact (K2 q).via fun t k => XS.icmpNo X.here hx rfl hd rfl (XT.ii_gt_f q) k
theorem Cx.icmp_le (C : Cx p l e R m args below meth c Z y bytes ml ret n0 wd F T h cells slots) {x z : Int32} {o : Int} {py pn : Nat} (hd : decode bytes pc = .ok (.if_icmp .le o, 3)) (ho : 0 ≤ (pc : Int) + o) (hy : ((pc : Int) + o).toNat = py) (hn : pc + 3 = pn) (K1 : ¬ z < x → Go p e below F n0 Q T (mkF m py L S)) (K2 : z < x → Go p e below F n0 Q T (mkF m pn L S)) : Go p e below F n0 Q T (mkF m pc L (.int z :: .int x :: S)) := by
  obtain ⟨s, locs, X, hx, rfl, -⟩ := C; subst hn
  by_cases q : z < x
  · exact (K2 q).via fun t k => XS.icmpNo X.here hx rfl hd rfl (XT.ii_le_f q) k
  · exact (K1 q).via fun t k => XS.icmpYes X.here hx rfl rfl hd rfl (XT.ii_le_t q) ho hy k
theorem Cx.if_le (C : Cx p l e R m args below meth c Z y bytes ml ret n0 wd F T h cells slots) {x : Int32} {o : Int} {py pn : Nat} (hd : decode bytes pc = .ok (.ifCond .le o, 3)) (ho : 0 ≤ (pc : Int) + o) (hy : ((pc : Int) + o).toNat = py) (hn : pc + 3 = pn) (K1 : ¬ (0 : Int32) < x → Go p e below F n0 Q T (mkF m py L S)) (K2 : (0 : Int32) < x → Go p e below F n0 Q T (mkF m pn L S)) : Go p e below F n0 Q T (mkF m pc L (.int x :: S)) := by
  obtain ⟨s, locs, X, hx, rfl, -⟩ := C; subst hn
  by_cases q : (0 : Int32) < x
  · exact (K2 q).via fun t k => XS.ifNo X.here hx rfl hd rfl (XT.i0_le_f q) k
  · exact (K1 q).via fun t k => XS.ifYes X.here hx rfl rfl hd rfl (XT.i0_le_t q) ho hy k
theorem Cx.done (C : Cx p l e R m args below meth c Z y bytes ml ret n0 wd F T h cells slots) {v : Option Value} (hv : ret = none → v = none) (hc : cells ≤ R.cells) (hs : slots ≤ R.slots) (hq : Q v h) {f : JFrame}
    (k : ∀ s locs fs, Stand p l e R s m args below meth c T locs cells slots → (∀ (f : JFrame) (acts : List Action), f.method = m → f.locked = none → f.entered = [] → (doReturn e (T.setTop f) acts v).1 = T.setFrames fs) → Steps p.tables e below (T.setTop f) (T.setFrames fs)) : Go p e below F n0 Q T f := by
  have hz := C.size
  obtain ⟨s, locs, X, hx, rfl, rfl, hZ, hown, hnm, rfl, hlk, rfl, N, hn, hF⟩ := C
  obtain ⟨fs, hr, hrun, hended, hW, hsame⟩ := X.leave (v := v) hv
  exact ⟨_, _, k s locs fs X hr, hrun, hended, v, locs, rfl, ⟨hq, N, hz⟩, hF _ _ _ (Nat.le_refl _) (EndF.of ⟨⟨v, rfl⟩, hW, hsame.mono hc hs⟩)⟩
theorem Cx.retN (C : Cx p l e R m args below meth c Z y bytes ml ret n0 wd F T h cells slots) {z w : Int32} {t : FieldType} (hd : decode bytes pc = .ok (.ireturn, 1)) (hret : ret = some t) (ht : t = .boolean ∨ t = .byte ∨ t = .char ∨ t = .short) (hc : cells ≤ R.cells) (hs : slots ≤ R.slots) (hw : nar t z = w) (hq : Q (some (.int w)) h) : Go p e below F n0 Q T (mkF m pc L (.int z :: S)) := by
  subst hw
  refine C.done (fun q => by rw [hret] at q; cases q) hc hs hq fun s locs fs X hr => ?_
  obtain ⟨_, _, -, hx, rfl, -, -, -, -, rfl, -⟩ := C
  exact Jvm.RoadKit.retN X hx hret ht hd hr
theorem Cx.retA (C : Cx p l e R m args below meth c Z y bytes ml ret n0 wd F T h cells slots) {w : Value} {t : FieldType} (hd : decode bytes pc = .ok (.areturn, 1)) (hret : ret = some t) (ht : t.isReference = true) (hw : w.isRef = true) (hc : cells ≤ R.cells) (hs : slots ≤ R.slots) (hq : Q (some w) h) : Go p e below F n0 Q T (mkF m pc L (w :: S)) := by
  refine C.done (fun q => by rw [hret] at q; cases q) hc hs hq fun s locs fs X hr => ?_
  obtain ⟨_, _, -, hx, rfl, -, -, -, -, rfl, -⟩ := C
  refine retOut X hx hret ?_ (Or.inr (Or.inr (Or.inr (Or.inr ⟨rfl, ht, hw⟩)))) hd hr
  rcases ref_cases hw with rfl | ⟨a, rfl⟩ <;> cases t <;> first | rfl | (simp [FieldType.isReference] at ht)
theorem Cx.retV (C : Cx p l e R m args below meth c Z y bytes ml ret n0 wd F T h cells slots) (hd : decode bytes pc = .ok (.return_, 1)) (hret : ret = none) (hc : cells ≤ R.cells) (hs : slots ≤ R.slots) (hq : Q none h) : Go p e below F n0 Q T (mkF m pc L []) := by
  refine C.done (fun q => rfl) hc hs hq fun s locs fs X hr => ?_
  obtain ⟨_, _, -, hx, rfl, -, -, -, -, rfl, -⟩ := C
  exact X.returnOut hx hret hd hr
theorem Cx.ldc (C : Cx p l e R m args below meth c Z y bytes ml ret n0 wd F T h cells slots) {idx : Nat} {v : Int32} (w : (Jvm.Cond.constant y.cls idx v).before a0 Z = true) (hd : decode bytes pc = .ok (.ldc idx, 2)) (hp : pc + 2 = pc') (K : Go p e below F n0 Q T (mkF m pc' L (.int v :: S))) : Go p e below F n0 Q T (mkF m pc L S) := by
  obtain ⟨s, locs, X, hx, rfl, rfl, hZ, hown, -⟩ := C; subst hp
  exact K.via fun t k => X.ldcInt hx hown (mvT hZ w) (g := mkF m pc L S) rfl hd t k
theorem Cx.callS (C : Cx p l e R m args below meth c Z y bytes ml ret n0 wd F T h cells slots) {idx : Nat} {y' : MethodName} {bytes' : ByteArray} {ml' : Nat} {ret' : Option FieldType} {R' : Room} {Q' : Option Value → Heap → Prop} {argsL : List Value} (w1 : (Jvm.Cond.methodLink y.cls idx y').before a0 Z = true) (w2 : (Jvm.Cond.static y').before a0 Z = true) (w3 : (Jvm.Cond.initialized y'.cls).before a0 Z = true) (w4 : (Jvm.Cond.code y' bytes' ml' ret').before a0 Z = true)
    (hy : y'.cls ≠ "java/lang/invoke/MethodHandle" ∧ y'.cls ≠ "java/lang/invoke/VarHandle") (M : Ctr l Z y' bytes' ml' ret' R' argsL.toArray h n0 Q') {ps : List FieldType} {rt : Option FieldType} (hpd : parseMethodDescriptor y'.desc = some ⟨ps, rt⟩) (hlen : argsL.length = ps.length)
    (W : Nat) (hf : R'.frames + 1 ≤ R.frames) (hl : W + (ml' + 11) + R'.locals ≤ R.locals) (hc : cells + R'.cells ≤ R.cells) (hs : slots + R'.slots ≤ R.slots) {rest : List Value} (hst : S = argsL.reverse ++ rest) (hsz : L.size = ml) (hW : (rest.map fun v => v.category).sum ≤ W)
    (hd : decode bytes pc = .ok (.invokestatic idx, 3)) (hp : pc + 3 = pc') (K : ∀ v T' h', Cx p l e R m args below meth c Z y bytes ml ret n0 wd F T' h' (cells + R'.cells) (slots + R'.slots) → Q' v h' → Go p e below F n0 Q T' (mkF m pc' L (v.toList ++ rest))) : Go p e below F n0 Q T (mkF m pc L S) := by
  obtain ⟨s, locs, X, hx, rfl, rfl, hZ, hown, hnm, hr, hlk, eT, N, hn, hF⟩ := C; subst hp
  obtain ⟨v, _, ⟨T', L', k', n'⟩, -, X', ⟨Lc, hQ, e1, e2, e3⟩, st⟩ := Jvm.LawKit.callS X hx (y := y') hown (mvT hZ w1) (mvT hZ w2) (mvT hZ w3) (mvT hZ w4) hy (backOf (W := W) (Q := fun v h9 L => (Q' v h9 ∧ h.size ≤ h9.size) ∧ Fr n0 L) (M []) hZ w4 w3 hf hl) (g := mkF m pc L S) rfl hsz (argsL := argsL) (rest := rest) (lenOf hpd hlen) hst (by show 2 * 0 + _ ≤ _; omega) hd (fun _ _ => ⟨rfl, eT, hc, hs⟩)
  dsimp only [Pt.U, Pt.locs, Pt.cells, Pt.slots] at X' e1 e2 e3 st hQ
  subst e1 e2 e3
  exact (K v T' T'.heap ⟨s, _, X', hx, rfl, rfl, hZ, hown, hnm, hr, hlk, rfl, N.app hQ.2, hn, fun o t L q => hF o t L (Nat.le_trans hQ.1.2 q)⟩ hQ.1.1).via st
theorem ext_keep {h h' : Heap} (K : Keep h h' []) : Ext h h' := ⟨K.1, fun a c q => K.2.1 a c q nin0⟩
theorem Cx.new (C : Cx p l e R m args below meth c Z y bytes ml ret n0 wd F T h cells slots) {idx n : Nat} {Cl : String} (w : (Jvm.Cond.classLink y.cls idx Cl).before a0 Z = true) (wi : (Jvm.Cond.instantiable Cl n).before a0 Z = true) (wz : (Jvm.Cond.initialized Cl).before a0 Z = true) (hd : decode bytes pc = .ok (.new idx, 3)) (hp : pc + 3 = pc') (hc : cells + 1 ≤ R.cells) (hl : slots + n ≤ R.slots)
    (K : ∀ T' h' b, Cx p l e R m args below meth c Z y bytes ml ret n0 wd F T' h' (cells + 1) (slots + n) → b = h.size → n0 ≤ b → Ext h h' → Exa Z h' b Cl → (∀ {O nm d : String} {ty : FieldType}, Laid Z a0 Cl O nm d → parseFieldDescriptor d = some ty → Fld Z h' b O nm d (defaultValue ty)) → Go p e below F n0 Q T' (mkF m pc' L (.ref b :: S))) : Go p e below F n0 Q T (mkF m pc L S) := by
  have hz := C.size
  obtain ⟨s, locs, X, hx, rfl, rfl, hZ, hown, hnm, hr, hlk, eT, N, hn, hF⟩ := C; subst hp
  obtain ⟨T', h', X', e', E, A, D, -, st⟩ := newO X hx hZ hown w wi wz eT (g := mkF m pc L S) rfl hd hc hl
  exact (K T' h' h.size ⟨s, locs, X', hx, rfl, rfl, hZ, hown, hnm, hr, hlk, e', N, hn, fun o t L q => hF o t L (Nat.le_trans E.1 q)⟩ rfl hz E A D).via st
theorem Cx.getF (C : Cx p l e R m args below meth c Z y bytes ml ret n0 wd F T h cells slots) {idx : Nat} {R0 O n d host : String} {a : Addr} {v : Value} (w : (Jvm.Cond.fieldLink y.cls idx R0 n d).before a0 Z = true ∨ (Jvm.Cond.fieldLinkNest y.cls idx R0 n d host).before a0 Z = true) (via : Via Z R0 O n d) (Fd : Fld Z h a O n d v) (hd : decode bytes pc = .ok (.getfield idx, 3)) (hp : pc + 3 = pc')
    (K : ∀ T', Cx p l e R m args below meth c Z y bytes ml ret n0 wd F T' h cells slots → Go p e below F n0 Q T' (mkF m pc' L (v :: S))) : Go p e below F n0 Q T (mkF m pc L (.ref a :: S)) := by
  obtain ⟨s, locs, X, hx, rfl, rfl, hZ, hown, hnm, hr, hlk, eT, N, hn, hF⟩ := C; subst hp
  obtain ⟨T', X', e', st⟩ := Jvm.RoadKit.getF X hx hZ hown w via eT Fd (g := mkF m pc L (.ref a :: S)) rfl rfl hd
  exact (K T' ⟨s, locs, X', hx, rfl, rfl, hZ, hown, hnm, hr, hlk, e', N, hn, hF⟩).via st
theorem Cx.getS (C : Cx p l e R m args below meth c Z y bytes ml ret n0 wd F T h cells slots) {idx : Nat} {R0 O n d host : String} {v : Value} (w : (Jvm.Cond.fieldLink y.cls idx R0 n d).before a0 Z = true ∨ (Jvm.Cond.fieldLinkNest y.cls idx R0 n d host).before a0 Z = true) (via : Via Z R0 O n d) (Fd : Sta Z h O n d v) (hd : decode bytes pc = .ok (.getstatic idx, 3)) (hp : pc + 3 = pc')
    (K : ∀ T', Cx p l e R m args below meth c Z y bytes ml ret n0 wd F T' h cells slots → Go p e below F n0 Q T' (mkF m pc' L (v :: S))) : Go p e below F n0 Q T (mkF m pc L S) := by
  obtain ⟨s, locs, X, hx, rfl, rfl, hZ, hown, hnm, hr, hlk, eT, N, hn, hF⟩ := C; subst hp
  obtain ⟨T', X', e', st⟩ := getS2 X hx hZ hown w via eT Fd (g := mkF m pc L S) rfl hd
  exact (K T' ⟨s, locs, X', hx, rfl, rfl, hZ, hown, hnm, hr, hlk, e', N, hn, hF⟩).via st
theorem Cx.putF (C : Cx p l e R m args below meth c Z y bytes ml ret n0 wd F T h cells slots) {idx kk : Nat} {R0 O n d host Cl : String} {a : Addr} {v old : Value} {ty : FieldType} (w : (Jvm.Cond.fieldLink y.cls idx R0 n d).before a0 Z = true ∨ (Jvm.Cond.fieldLinkNest y.cls idx R0 n d host).before a0 Z = true) (via : Via Z R0 O n d) (Fd : Fld Z h a O n d old) (E : Exa Z h a Cl) (Lw : (Jvm.Cond.lays Cl O n d).before a0 Z = true ∨ ((Jvm.Cond.laysFinal Cl O n d).before a0 Z = true ∧ y.cls = O ∧ y.name = "<init>")) (wi : (Jvm.Cond.instantiable Cl kk).before a0 Z = true)
    (hty : parseFieldDescriptor d = some ty) (hnr : narrow ty v = v) (hf : fits ty v = true) (g : n0 ≤ a) (hd : decode bytes pc = .ok (.putfield idx, 3)) (hp : pc + 3 = pc') (K : ∀ T' h', Cx p l e R m args below meth c Z y bytes ml ret n0 wd F T' h' cells slots → Wr h h' a (Jvm.RoadKit.slotOf Z O n d) v → Go p e below F n0 Q T' (mkF m pc' L S)) : Go p e below F n0 Q T (mkF m pc L (v :: .ref a :: S)) := by
  obtain ⟨s, locs, X, hx, rfl, rfl, hZ, hown, hnm, hr, hlk, eT, N, hn, hF⟩ := C; subst hp
  obtain ⟨T', h', X', e', W, st⟩ := Jvm.RoadKit.putF X hx hZ hown w via eT Fd E (Lw.imp id fun q => ⟨q.1, q.2.1, hnm.trans q.2.2⟩) wi hty hnr hf (g := mkF m pc L (v :: .ref a :: S)) rfl rfl hd
  exact (K T' h' ⟨s, _, X', hx, rfl, rfl, hZ, hown, hnm, hr, hlk, e', Fr.snoc X' N g, hn, fun o t L q => hF o t L (W.size ▸ q)⟩ W).via st
theorem Cx.putFN (C : Cx p l e R m args below meth c Z y bytes ml ret n0 wd F T h cells slots) {idx kk : Nat} {R0 O n d Cl : String} {a : Addr} {v v' old : Value} {ty : FieldType} (w : (Jvm.Cond.fieldLink y.cls idx R0 n d).before a0 Z = true) (via : Via Z R0 O n d) (Fd : Fld Z h a O n d old) (E : Exa Z h a Cl) (Lw : (Jvm.Cond.lays Cl O n d).before a0 Z = true ∨ ((Jvm.Cond.laysFinal Cl O n d).before a0 Z = true ∧ y.cls = O ∧ y.name = "<init>")) (wi : (Jvm.Cond.instantiable Cl kk).before a0 Z = true)
    (hty : parseFieldDescriptor d = some ty) (hnr : narrow ty v = v') (hf : fits ty v' = true) (g : n0 ≤ a) (hd : decode bytes pc = .ok (.putfield idx, 3)) (hp : pc + 3 = pc') (K : ∀ T' h', Cx p l e R m args below meth c Z y bytes ml ret n0 wd F T' h' cells slots → Wr h h' a (Jvm.RoadKit.slotOf Z O n d) v' → Go p e below F n0 Q T' (mkF m pc' L S)) : Go p e below F n0 Q T (mkF m pc L (v :: .ref a :: S)) := by
  obtain ⟨s, locs, X, hx, rfl, rfl, hZ, hown, hnm, hr, hlk, eT, N, hn, hF⟩ := C; subst hp
  obtain ⟨T', h', X', e', W, st⟩ := Jvm.RoadKit.putFN X hx hZ hown w via eT Fd E (Lw.imp id fun q => ⟨q.1, q.2.1, hnm.trans q.2.2⟩) wi hty hnr hf (g := mkF m pc L (v :: .ref a :: S)) rfl rfl hd
  exact (K T' h' ⟨s, _, X', hx, rfl, rfl, hZ, hown, hnm, hr, hlk, e', Fr.snoc X' N g, hn, fun o t L q => hF o t L (W.size ▸ q)⟩ W).via st
theorem Cx.initObj (C : Cx p l e R m args below meth c Z y bytes ml ret n0 wd F T h cells slots) {idx : Nat} {a : Addr} (w1 : (Jvm.Cond.methodLink y.cls idx Lib.objectInit).before a0 Z = true) (w2 : (Jvm.Cond.instanceMethod Lib.objectInit).before a0 Z = true) (w3 : (Jvm.Cond.code Lib.objectInit ⟨#[0xb1]⟩ 1 none).before a0 Z = true) (hsz : L.size = ml) (hf : 1 ≤ R.frames) (W : Nat) (hW : (S.map fun v => v.category).sum ≤ W) (hl : W + 12 ≤ R.locals) (hd : decode bytes pc = .ok (.invokespecial idx, 3)) (hp : pc + 3 = pc')
    (K : ∀ T', Cx p l e R m args below meth c Z y bytes ml ret n0 wd F T' h cells slots → Go p e below F n0 Q T' (mkF m pc' L S)) : Go p e below F n0 Q T (mkF m pc L (.ref a :: S)) := by
  obtain ⟨s, locs, X, hx, rfl, rfl, hZ, hown, hnm, hr, hlk, eT, N, hn, hF⟩ := C; subst hp
  obtain ⟨T', X', e', st⟩ := initO X hx hZ hown w1 w2 w3 eT (g := mkF m pc L (.ref a :: S)) rfl hsz rfl hd hf (W := W) (by show 2 * 0 + _ ≤ _; omega) hl
  exact (K T' ⟨s, locs, X', hx, rfl, rfl, hZ, hown, hnm, hr, hlk, e', N, hn, hF⟩).via st
theorem Cx.newarr (C : Cx p l e R m args below meth c Z y bytes ml ret n0 wd F T h cells slots) {aty : ArrayType} (w : (Jvm.Cond.arrayClass (newarray.typeOf aty)).before a0 Z = true) {n : Int32} (cap : Nat) (hn0 : ¬ n < 0) (hcap : n.toNatClampNeg ≤ cap) (hb : cap * 8 ≤ 536870912) (hc : cells + 1 ≤ R.cells) (hl : slots + cap ≤ R.slots) (hd : decode bytes pc = .ok (.newarray aty, 2)) (hp : pc + 2 = pc')
    (K : ∀ T' h' b k, Cx p l e R m args below meth c Z y bytes ml ret n0 wd F T' h' (cells + 1) (slots + cap) → b = h.size → n0 ≤ b → Ext h h' → Arv Z h' b k (newarray.typeOf aty) n (List.replicate cap (defaultValue (newarray.typeOf aty))) (defaultValue (newarray.typeOf aty)) → Go p e below F n0 Q T' (mkF m pc' L (.ref b :: S))) : Go p e below F n0 Q T (mkF m pc L (.int n :: S)) := by
  have hz := C.size
  obtain ⟨s, locs, X, hx, rfl, rfl, hZ, hown, hnm, hr, hlk, eT, N, hn, hF⟩ := C; subst hp
  obtain ⟨T', h', cA, X', e', E, A, st⟩ := newP X hx hZ w eT (g := mkF m pc L (.int n :: S)) rfl hd rfl hn0 (cap := cap) hcap hb hc hl
  exact (K T' h' h.size cA ⟨s, locs, X', hx, rfl, rfl, hZ, hown, hnm, hr, hlk, e', N, hn, fun o t L q => hF o t L (Nat.le_trans E.1 q)⟩ rfl hz E ((Arv.new A hn0).pad (pad_rep [] _ cap))).via st
theorem Cx.bastore (C : Cx p l e R m args below meth c Z y bytes ml ret n0 wd F T h cells slots) {a : Addr} {k : ClassId} {n j : Int32} {x : Int32} {vs : List Value} {dv : Value} (A : Arv Z h a k .byte n vs dv) (hj : ¬ j < 0 ∧ j < n) (hlen : j.toNatClampNeg < vs.length) (g : n0 ≤ a) (hd : decode bytes pc = .ok (.bastore, 1)) (hp : pc + 1 = pc')
    (K : ∀ T' h', Cx p l e R m args below meth c Z y bytes ml ret n0 wd F T' h' cells slots → Wr h h' a j.toNatClampNeg (.int (nar .byte x)) → Arv Z h' a k .byte n (vs.set j.toNatClampNeg (.int (nar .byte x))) dv → Go p e below F n0 Q T' (mkF m pc' L S)) : Go p e below F n0 Q T (mkF m pc L (.int x :: .int j :: .ref a :: S)) := by
  obtain ⟨s, locs, X, hx, rfl, rfl, hZ, hown, hnm, hr, hlk, eT, N, hn, hF⟩ := C; subst hp
  obtain ⟨cl, Ar, q1, Sz, q3, H, G⟩ := A
  obtain ⟨T', h', X', e', W, st⟩ := stB X hx hZ eT Ar (j := j) (inb_of Sz hj) (g := mkF m pc L (.int x :: .int j :: .ref a :: S)) rfl rfl hd
  exact (K T' h' ⟨s, _, X', hx, rfl, rfl, hZ, hown, hnm, hr, hlk, e', Fr.snoc X' N g, hn, fun o t L q => hF o t L (W.size ▸ q)⟩ W (Arv.set Ar q1 Sz q3 H G (fits_nar_byte _) W _ rfl hlen)).via st
theorem Cx.arrlen (C : Cx p l e R m args below meth c Z y bytes ml ret n0 wd F T h cells slots) {a : Addr} {k : ClassId} {n : Int32} {ty : FieldType} {vs : List Value} {dv : Value} (A : Arv Z h a k ty n vs dv) (hd : decode bytes pc = .ok (.arraylength, 1)) (hp : pc + 1 = pc') (K : Go p e below F n0 Q T (mkF m pc' L (.int n :: S))) : Go p e below F n0 Q T (mkF m pc L (.ref a :: S)) := by
  obtain ⟨s, locs, X, hx, rfl, rfl, hZ, hown, hnm, hr, hlk, eT, N, hn, hF⟩ := C; subst hp
  obtain ⟨cl, Ar, q1, Sz, q3, H, G⟩ := A
  rw [← len_of Sz q3] at K
  exact K.via fun t k => X.arraylength hx (by rw [eT]; exact Ar.1) (State.isArrayOf_alike hZ.alike Ar.2.1) (g := mkF m pc L (.ref a :: S)) rfl rfl hd t k
theorem Cx.callN (C : Cx p l e R m args below meth c Z y bytes ml ret n0 wd F T h cells slots) {a : Addr} {idx : Nat} {y' : MethodName} {bytes' : ByteArray} {ml' : Nat} {R' : Room} {Q' : Option Value → Heap → Prop} {argsL : List Value} (hin : y'.name = "<init>") (w1 : (Jvm.Cond.methodLink y.cls idx y').before a0 Z = true) (w2 : (Jvm.Cond.instanceMethod y').before a0 Z = true) (wz : (Jvm.Cond.initialized y'.cls).before a0 Z = true) (wc : (Jvm.Cond.code y' bytes' ml' none).before a0 Z = true)
    (hy : y'.cls ≠ "java/lang/invoke/MethodHandle" ∧ y'.cls ≠ "java/lang/invoke/VarHandle") (M : Ctr l Z y' bytes' ml' none R' (.ref a :: argsL).toArray h n0 Q') {ps : List FieldType} {rt : Option FieldType} (hpd : parseMethodDescriptor y'.desc = some ⟨ps, rt⟩) (hlen : argsL.length = ps.length) (W : Nat) (hf : R'.frames + 1 ≤ R.frames) (hl : W + (ml' + 11) + R'.locals ≤ R.locals) (hc : cells + R'.cells ≤ R.cells) (hs : slots + R'.slots ≤ R.slots) {rest : List Value} (hst : S = argsL.reverse ++ .ref a :: rest) (hsz : L.size = ml) (hW : (rest.map fun v => v.category).sum ≤ W) (hd : decode bytes pc = .ok (.invokespecial idx, 3)) (hp : pc + 3 = pc') (K : ∀ v T' h', Cx p l e R m args below meth c Z y bytes ml ret n0 wd F T' h' (cells + R'.cells) (slots + R'.slots) → Q' v h' → Go p e below F n0 Q T' (mkF m pc' L (v.toList ++ rest))) : Go p e below F n0 Q T (mkF m pc L S) := by
  obtain ⟨s, locs, X, hx, rfl, rfl, hZ, hown, hnm, hr, hlk, eT, N, hn, hF⟩ := C; subst hp
  obtain ⟨v, _, ⟨T', L', k', n'⟩, -, X', ⟨Lc, hQ, e1, e2, e3⟩, st⟩ := X.specialBack hx (y := y') hin hown (mvT hZ w1) (mvT hZ w2) (mvT hZ wc) hy (backOf (W := W) (Q := fun v h9 L => (Q' v h9 ∧ h.size ≤ h9.size) ∧ Fr n0 L) (M []) hZ wc wz hf hl) (g := mkF m pc L S) rfl hsz (Steps.refl _) (a := a) (argsL := argsL) (rest := rest) (lenOf hpd hlen) hst (by show 2 * 0 + _ ≤ _; omega) hd (fun _ _ => ⟨rfl, eT, hc, hs⟩)
  dsimp only [Pt.U, Pt.locs, Pt.cells, Pt.slots] at X' e1 e2 e3 st hQ
  subst e1 e2 e3
  exact (K v T' T'.heap ⟨s, _, X', hx, rfl, rfl, hZ, hown, hnm, hr, hlk, rfl, N.app hQ.2, hn, fun o t L q => hF o t L (Nat.le_trans hQ.1.2 q)⟩ hQ.1.1).via fun t k => st.trans k
theorem Cx.callV (C : Cx p l e R m args below meth c Z y bytes ml ret n0 wd F T h cells slots) {a : Addr} {idx : Nat} {y' : MethodName} {bytes' : ByteArray} {ml' : Nat} {ret' : Option FieldType} {R' : Room} {Q' : Option Value → Heap → Prop} {argsL : List Value} {Cl : String} (w1 : (Jvm.Cond.methodLink y.cls idx y').before a0 Z = true) (w2 : (Jvm.Cond.declares y').before a0 Z = true) (w3 : (Jvm.Cond.selects Cl y' y').before a0 Z = true) (w4 : (Jvm.Cond.instanceMethod y').before a0 Z = true) (wz : (Jvm.Cond.initialized y'.cls).before a0 Z = true) (wc : (Jvm.Cond.code y' bytes' ml' ret').before a0 Z = true) (E : Exa Z h a Cl)
    (hy : y'.cls ≠ "java/lang/invoke/MethodHandle" ∧ y'.cls ≠ "java/lang/invoke/VarHandle") (M : Ctr l Z y' bytes' ml' ret' R' (.ref a :: argsL).toArray h n0 Q') {ps : List FieldType} {rt : Option FieldType} (hpd : parseMethodDescriptor y'.desc = some ⟨ps, rt⟩) (hlen : argsL.length = ps.length) (W : Nat) (hf : R'.frames + 1 ≤ R.frames) (hl : W + (ml' + 11) + R'.locals ≤ R.locals) (hc : cells + R'.cells ≤ R.cells) (hs : slots + R'.slots ≤ R.slots) {rest : List Value} (hst : S = argsL.reverse ++ .ref a :: rest) (hsz : L.size = ml) (hW : (rest.map fun v => v.category).sum ≤ W) (hd : decode bytes pc = .ok (.invokevirtual idx, 3)) (hp : pc + 3 = pc') (K : ∀ v T' h', Cx p l e R m args below meth c Z y bytes ml ret n0 wd F T' h' (cells + R'.cells) (slots + R'.slots) → Q' v h' → Go p e below F n0 Q T' (mkF m pc' L (v.toList ++ rest))) : Go p e below F n0 Q T (mkF m pc L S) := by
  obtain ⟨s, locs, X, hx, rfl, rfl, hZ, hown, hnm, hr, hlk, eT, N, hn, hF⟩ := C; subst hp
  obtain ⟨cB, kB, qa, qb, qc⟩ := isOf hZ eT E
  obtain ⟨v, _, ⟨T', L', k', n'⟩, -, X', ⟨Lc, hQ, e1, e2, e3⟩, st⟩ := X.virtualBack hx (y := y') (z := y') hown (mvT hZ w1) (mvT hZ w2) (notFace_of_selects (args := #[]) (mvT hZ w3)) (mvT hZ w3) (mvT hZ w4) hy (backOf (W := W) (Q := fun v h9 L => (Q' v h9 ∧ h.size ≤ h9.size) ∧ Fr n0 L) (M []) hZ wc wz hf hl) qa qc (g := mkF m pc L S) rfl hsz (Steps.refl _) (argsL := argsL) (rest := rest) (lenOf hpd hlen) hst (by show 2 * 0 + _ ≤ _; omega) hd (fun _ _ => ⟨rfl, eT, hc, hs⟩)
  dsimp only [Pt.U, Pt.locs, Pt.cells, Pt.slots] at X' e1 e2 e3 st hQ
  subst e1 e2 e3
  exact (K v T' T'.heap ⟨s, _, X', hx, rfl, rfl, hZ, hown, hnm, hr, hlk, rfl, N.app hQ.2, hn, fun o t L q => hF o t L (Nat.le_trans hQ.1.2 q)⟩ hQ.1.1).via fun t k => st.trans k
theorem Cx.acmp_ne (C : Cx p l e R m args below meth c Z y bytes ml ret n0 wd F T h cells slots) {a b : Addr} {o : Int} {py pn : Nat} (hd : decode bytes pc = .ok (.if_acmp .ne o, 3)) (ho : 0 ≤ (pc : Int) + o) (hy : ((pc : Int) + o).toNat = py) (hn : pc + 3 = pn) (K1 : ¬ a = b → Go p e below F n0 Q T (mkF m py L S)) (K2 : a = b → Go p e below F n0 Q T (mkF m pn L S)) : Go p e below F n0 Q T (mkF m pc L (.ref b :: .ref a :: S)) := by
  obtain ⟨s, locs, X, hx, rfl, -⟩ := C; subst hn
  by_cases q : a = b
  · exact (K2 q).via fun t k => XT.acmpNo X.here hx rfl hd rfl rfl rfl (XT.aa_ne_f (congrArg Value.ref q)) k
  · exact (K1 q).via fun t k => XT.acmpYes X.here hx rfl rfl hd rfl rfl rfl (XT.aa_ne_t (fun z => q (Value.ref.inj z))) ho hy k
def CtrW (l : Launch) (Z : State) (y : MethodName) (bytes : ByteArray) (ml : Nat) (ret : Option FieldType) (R : Room) (as' : Array Value) (h : Heap) (n0 : Nat) (Q : Option Value → Heap → Prop) : Prop :=
  ∀ ws : List Jvm.Cond, MetFree l y (head1 (Jvm.Cond.code y bytes ml ret :: ws) R) (fun a U => a = as' ∧ Z.Warmed39 U.vm ∧ U.heap = h) (fun _ _ _ _ _ => True) (fun _ U o U' => ∃ v L, o = .returned v ∧ (Q v U'.heap ∧ Fr n0 L) ∧ WideEnd U o U' L R.cells R.slots)
theorem CtrW.body {as' : Array Value} (hpl : plainFor y = true) (hn : n0 ≤ h.size) (ef : ∀ m, entryFrame m as' ml = mkF m 0 L [])
    (k : ∀ (p : Program) (e : Env) (F : Outcome → State → List Loc → Prop) (m : MethodId) (below : List Frame) (meth : Method) (c : Code) (T : State), Cx p l e R m as' below meth c Z y bytes ml ret n0 true F T h 0 0 → Go p e below F n0 Q T (mkF m 0 L [])) : CtrW l Z y bytes ml ret R as' h n0 Q := by
  intro ws
  refine MetFree.of_bodySF hpl hisR ?_
  intro p e s m args below meth c s₁ Bd hml0 hP hK
  obtain ⟨rfl, hZ, hh⟩ := hP
  obtain ⟨s₂, o, g1, g2, g3, v, L9, g4, ⟨g5, g6, -⟩, g7⟩ := k p e (fun o t L => WideEnd s o t L R.cells R.slots) m below meth c s₁ ⟨s, [], Stand.of_body Bd, Bd.exec, Bd.bytes, hml0, hZ, findClass_of_methodNamed Bd.named, (name_of_methodNamed Bd.named Bd.method).1, Bd.returns, Bd.notSynchronized, by rw [← hh, Bd.state]; rfl, Fr.nil n0, by rw [hh]; exact hn, fun _ _ _ _ q => q⟩
  rw [ef m]
  exact ⟨s₂, o, g1, g2, g3, v, L9, g4, ⟨g5, g6⟩, g7⟩
theorem Cx.ldcStr (C : Cx p l e R m args below meth c Z y bytes ml ret n0 true F T h cells slots) {idx : Nat} {text : String} (w : (Jvm.Cond.stringLink y.cls idx text).before a0 Z = true) (wS : ∀ a ∈ Bundle.stringAtoms, a.before a0 Z = true) (n : Nat) (hn9 : 4 * text.toList.length ≤ n) (hbig : n ≤ 536870912) (hc : cells + 2 ≤ R.cells) (hl : slots + (n + 4) ≤ R.slots) (hd : decode bytes pc = .ok (.ldc idx, 2)) (hp : pc + 2 = pc')
    (K : ∀ a T' h', Cx p l e R m args below meth c Z y bytes ml ret n0 true F T' h' (cells + 2) (slots + (n + 4)) → Ext h h' → Go p e below F n0 Q T' (mkF m pc' L (.ref a :: S))) : Go p e below F n0 Q T (mkF m pc L S) := by
  obtain ⟨s, locs, X, hx, rfl, rfl, hZ, hown, hnm, hr, hlk, eT, N, hn, hF⟩ := C; subst hp
  have X0 : Stand p l e R (s.setVm s.vm) m args below meth c T locs cells slots := X
  obtain ⟨a, T', h', k1, X', e', E, hS, hk, hZ', hown', st⟩ := ldcS (s := s) (vm0 := s.vm) X0 hx hZ hown w wS eT (State.WarmedH.since (State.WarmedH.refl s) h.size) (Nat.le_refl _) (g := mkF m pc L S) rfl hd hn9 hbig hc hl
  refine (K a T' h' ⟨s.setVm T'.vm, locs, X', hx, rfl, rfl, hZ', hown', hnm, hr, hlk, e', N, hn, fun o t L q z => ?_⟩ E).via st
  refine hF o t L (Nat.le_trans E.1 q) ?_
  obtain ⟨z1, z2, z3, z4⟩ := z
  have zz := hS.trans (⟨z2, z3⟩ : (s.setVm T'.vm).Since t.vm t.heap.size) (Nat.le_trans hk q)
  exact ⟨z1, zz.1, zz.2, z4.setVm s.vm⟩
theorem Cx.newrefs (C : Cx p l e R m args below meth c Z y bytes ml ret n0 wd F T h cells slots) {idx : Nat} {Cn ad : String} (w1 : (Jvm.Cond.classLink y.cls idx Cn).before a0 Z = true) (w2 : (Jvm.Cond.arrayOver (.object Cn)).before a0 Z = true) {n : Int32} (cap : Nat) (hn0 : ¬ n < 0) (hcap : n.toNatClampNeg ≤ cap) (hb : cap * 8 ≤ 536870912) (hc : cells + 1 ≤ R.cells) (hl : slots + cap ≤ R.slots) (had : "[" ++ (FieldType.object Cn).toString = ad) (hd : decode bytes pc = .ok (.anewarray idx, 3)) (hp : pc + 3 = pc')
    (K : ∀ T' h' b k, Cx p l e R m args below meth c Z y bytes ml ret n0 wd F T' h' (cells + 1) (slots + cap) → b = h.size → n0 ≤ b → Ext h h' → Arv Z h' b k (.object Cn) n (List.replicate cap .null) .null → Exa Z h' b ad → Ovr Z k Cn → Go p e below F n0 Q T' (mkF m pc' L (.ref b :: S))) : Go p e below F n0 Q T (mkF m pc L (.int n :: S)) := by
  have hz := C.size
  obtain ⟨s, locs, X, hx, rfl, rfl, hZ, hown, hnm, hr, hlk, eT, N, hn, hF⟩ := C; subst hp
  obtain ⟨T', h', cA, X', e', E, A, Ea, O, st⟩ := newRE X hx hZ hown w1 w2 eT (g := mkF m pc L (.int n :: S)) rfl hd rfl hn0 (cap := cap) hcap hb hc hl had
  exact (K T' h' h.size cA ⟨s, locs, X', hx, rfl, rfl, hZ, hown, hnm, hr, hlk, e', N, hn, fun o t L q => hF o t L (Nat.le_trans E.1 q)⟩ rfl hz E ((Arv.new A hn0).pad (pad_rep [] _ cap)) Ea O).via st
theorem Cx.aastore (C : Cx p l e R m args below meth c Z y bytes ml ret n0 wd F T h cells slots) {a b : Addr} {k : ClassId} {n j : Int32} {Cn : String} {vs : List Value} {dv : Value} (A : Arv Z h a k (.object Cn) n vs dv) (O : Ovr Z k Cn) (I : Ins Z h b Cn true) (hj : ¬ j < 0 ∧ j < n) (hlen : j.toNatClampNeg < vs.length) (g : n0 ≤ a) (hd : decode bytes pc = .ok (.aastore, 1)) (hp : pc + 1 = pc')
    (K : ∀ T' h', Cx p l e R m args below meth c Z y bytes ml ret n0 wd F T' h' cells slots → Wr h h' a j.toNatClampNeg (.ref b) → Arv Z h' a k (.object Cn) n (vs.set j.toNatClampNeg (.ref b)) dv → Go p e below F n0 Q T' (mkF m pc' L S)) : Go p e below F n0 Q T (mkF m pc L (.ref b :: .int j :: .ref a :: S)) := by
  obtain ⟨s, locs, X, hx, rfl, rfl, hZ, hown, hnm, hr, hlk, eT, N, hn, hF⟩ := C; subst hp
  obtain ⟨cl, Ar, q1, Sz, q3, H, G⟩ := A
  obtain ⟨T', h', X', e', W, st⟩ := stR X hx hZ eT Ar (j := j) (inb_of Sz hj) rfl (Sto.ofV Ar q1 O I) (g := mkF m pc L (.ref b :: .int j :: .ref a :: S)) rfl rfl hd
  exact (K T' h' ⟨s, _, X', hx, rfl, rfl, hZ, hown, hnm, hr, hlk, e', Fr.snoc X' N g, hn, fun o t L q => hF o t L (W.size ▸ q)⟩ W (Arv.set Ar q1 Sz q3 H G rfl W _ rfl hlen)).via st
theorem Cx.aaload (C : Cx p l e R m args below meth c Z y bytes ml ret n0 wd F T h cells slots) {a : Addr} {k : ClassId} {n j : Int32} {Cn : String} {v : Value} {vs : List Value} {dv : Value} (A : Arv Z h a k (.object Cn) n vs dv) (hj : ¬ j < 0 ∧ j < n) (hv : vs.getD j.toNatClampNeg dv = v) (hd : decode bytes pc = .ok (.aaload, 1)) (hp : pc + 1 = pc') (K : Go p e below F n0 Q T (mkF m pc' L (v :: S))) : Go p e below F n0 Q T (mkF m pc L (.int j :: .ref a :: S)) := by
  obtain ⟨s, locs, X, hx, rfl, rfl, hZ, hown, hnm, hr, hlk, eT, N, hn, hF⟩ := C; subst hp
  obtain ⟨cl, Ar, q1, Sz, q3, H, G⟩ := A
  exact K.via fun t k => X.aaload hx (j := j) (by rw [eT]; exact Ar.1) (State.isArrayOf_alike hZ.alike Ar.2.1) rfl Ar.2.2 (inb_of Sz hj) (H.at (inb_of Sz hj) hv) (g := mkF m pc L (.int j :: .ref a :: S)) rfl rfl hd t k
theorem Cx.clonearr (C : Cx p l e R m args below meth c Z y bytes ml ret n0 wd F T h cells slots) {idx : Nat} {ad : String} (w1 : (Jvm.Cond.methodLink y.cls idx ⟨ad, "clone", "()Ljava/lang/Object;"⟩).before a0 Z = true) (w2 : (Jvm.Cond.sameMethod ad "java/lang/Object" "clone" "()Ljava/lang/Object;").before a0 Z = true) (w3 : (Jvm.Cond.native ⟨"java/lang/Object", "clone", "()Ljava/lang/Object;"⟩).before a0 Z = true) (w4 : (Jvm.Cond.instanceMethod ⟨"java/lang/Object", "clone", "()Ljava/lang/Object;"⟩).before a0 Z = true) (w5 : (Jvm.Cond.selects ad ⟨ad, "clone", "()Ljava/lang/Object;"⟩ ⟨"java/lang/Object", "clone", "()Ljava/lang/Object;"⟩).before a0 Z = true) (w6 : (Jvm.Cond.castable ad "java/lang/Cloneable").before a0 Z = true)
    {a : Addr} {k : ClassId} {z : Int32} {ty : FieldType} {vs : List Value} {dv : Value} (A : Arv Z h a k ty z vs dv) (E : Exa Z h a ad) (hsz : L.size = ml) (hf : 1 ≤ R.frames) (W : Nat) (hW : (S.map fun v => v.category).sum ≤ W) (hlo : W + 14 ≤ R.locals) (cap : Nat) (hcap : z.toNatClampNeg ≤ cap) (hc : cells + 1 ≤ R.cells) (hl : slots + cap ≤ R.slots) (hd : decode bytes pc = .ok (.invokevirtual idx, 3)) (hp : pc + 3 = pc')
    (K : ∀ T' h' b, Cx p l e R m args below meth c Z y bytes ml ret n0 wd F T' h' (cells + 1) (slots + cap) → b = h.size → n0 ≤ b → Ext h h' → Arv Z h' b k ty z vs dv → Exa Z h' b ad → Go p e below F n0 Q T' (mkF m pc' L (.ref b :: S))) : Go p e below F n0 Q T (mkF m pc L (.ref a :: S)) := by
  have hz := C.size
  obtain ⟨s, locs, X, hx, rfl, rfl, hZ, hown, hnm, hr, hlk, eT, N, hn, hF⟩ := C; subst hp
  obtain ⟨cl, Ar, q1, Sz, q3, H, G⟩ := A
  have FC : FitC Z cl := fitC_of Ar fun i hi v hv => by rw [H i hi] at hv; cases hv; exact G i hi
  obtain ⟨T', h', X', e', Ex, A', E', st⟩ := cloneA X hx hZ hown w1 w2 w3 w4 w5 w6 eT Ar E FC (g := mkF m pc L (.ref a :: S)) rfl hsz rfl hd hf (W := W) (cap := cap) (by show 2 * 0 + _ ≤ _; omega) hlo (by rw [Sz]; exact hcap) hc hl
  exact (K T' h' h.size ⟨s, locs, X', hx, rfl, rfl, hZ, hown, hnm, hr, hlk, e', N, hn, fun o t L q => hF o t L (Nat.le_trans Ex.1 q)⟩ rfl hz Ex ⟨cloneOf cl, A', q1, Sz, q3, H, G⟩ E').via st
theorem Cx.castY (C : Cx p l e R m args below meth c Z y bytes ml ret n0 wd F T h cells slots) {idx : Nat} {Kn : String} {a : Addr} (w : (Jvm.Cond.classLink y.cls idx Kn).before a0 Z = true) (I : Ins Z h a Kn true) (hd : decode bytes pc = .ok (.checkcast idx, 3)) (hp : pc + 3 = pc') (K : ∀ T', Cx p l e R m args below meth c Z y bytes ml ret n0 wd F T' h cells slots → Go p e below F n0 Q T' (mkF m pc' L (.ref a :: S))) : Go p e below F n0 Q T (mkF m pc L (.ref a :: S)) := by
  obtain ⟨s, locs, X, hx, rfl, rfl, hZ, hown, hnm, hr, hlk, eT, N, hn, hF⟩ := C; subst hp
  obtain ⟨T', X', e', st⟩ := Jvm.RoadKit.castY X hx hZ hown w eT I (g := mkF m pc L (.ref a :: S)) rfl rfl hd
  exact (K T' ⟨s, locs, X', hx, rfl, rfl, hZ, hown, hnm, hr, hlk, e', N, hn, hF⟩).via st
end Layer
end Jvm.Ow
namespace Jvm.Pilot.@@N@@
open Jvm Jvm.ClassFile Sem Op Lib Jvm.Free Jvm.Stand Jvm.LawKit Jvm.RoadKit Bundle Jvm.Ow Jvm.Pilot.@@N@@.Jvm.D
theorem own_eqite {α : Type} {P : Prop} [Decidable P] {u a b : α} : (u = if P then a else b) ↔ ((P ∧ u = a) ∨ (¬ P ∧ u = b)) := by by_cases h : P <;> simp [h]
theorem own_iteeq {α : Type} {P : Prop} [Decidable P] {u a b : α} : ((if P then a else b) = u) ↔ ((P ∧ a = u) ∨ (¬ P ∧ b = u)) := by by_cases h : P <;> simp [h]
theorem own_nea {Z : State} {h : Heap} {a b : Addr} {C : String} {k : ClassId} {ty : FieldType} {n : Int32} {vs : List Value} {dv : Value} {a0 : Array Value} {kk : Nat} (E : Exa Z h a C) (wi : (Jvm.Cond.instantiable C kk).before a0 Z = true) (F : Arv Z h b k ty n vs dv) : a ≠ b := by
  obtain ⟨c, A, -⟩ := F; exact ne_arr E wi A
theorem own_fitr {v : Value} {t : FieldType} (h : v.isRef = true) (ht : t.isReference = true) : fits t v = true := by
  rcases ref_cases h with rfl | ⟨a, rfl⟩ <;> cases t <;> first | rfl | (simp [FieldType.isReference] at ht)
theorem own_plainE {Z : State} {h : Heap} {a : Addr} {C : String} (E : Exa Z h a C) : ∃ c : Cell, h[a]? = some c ∧ c.vm.isStatics = false := by
  obtain ⟨c, k, h1, -, -, h4, -⟩ := E; exact ⟨c, h1, h4⟩
theorem own_plainV {Z : State} {h : Heap} {a : Addr} {k : ClassId} {ty : FieldType} {n : Int32} {vs : List Value} {dv : Value} (F : Arv Z h a k ty n vs dv) : ∃ c : Cell, h[a]? = some c ∧ c.vm.isStatics = false := by
  obtain ⟨c, A, -⟩ := F; exact ⟨c, A.1, A.plain⟩
theorem own_stak {Z : State} {h h' : Heap} {C n d : String} {w : Value} {ws : List Addr} (F : Sta Z h C n d w) (K : Keep h h' ws) (q : ∀ x ∈ ws, ∃ c : Cell, h[x]? = some c ∧ c.vm.isStatics = false) : Sta Z h' C n d w := by
  obtain ⟨cf, i, k, f, st, cell, h1, h2, h3, h4, h5, h6, h7⟩ := F
  refine ⟨cf, i, k, f, st, cell, h1, h2, h3, h4, K.2.1 st cell h5 fun z => ?_, h6, h7⟩
  obtain ⟨c, e1, e2⟩ := q st z
  cases h5.symm.trans e1
  rw [h6] at e2; cases e2
theorem own_narb (x : Int32) : nar .byte x.toInt8.toInt32 = x.toInt8.toInt32 := by
  show x.toInt8.toInt32.toInt8.toInt32 = _; simp
theorem own_and11 : ((1 : Int32) &&& (1 : Int32)) = (1 : Int32) := by decide
theorem own_wS {Z : State} {a0 : Array Value} (hw : ∀ d ∈ tables_1, d.before a0 Z = true) : ∀ a ∈ Bundle.stringAtoms, a.before a0 Z = true := by
  intro a ha
  simp only [Bundle.stringAtoms, List.mem_cons, List.not_mem_nil, or_false] at ha
  rcases ha with rfl | rfl | rfl | rfl | rfl | rfl | rfl
  · exact (hw _ (List.mem_of_getElem? (i := 2) rfl))
  · exact (hw _ (List.mem_of_getElem? (i := 10) rfl))
  · exact (hw _ (List.mem_of_getElem? (i := 14) rfl))
  · exact (hw _ (List.mem_of_getElem? (i := 23) rfl))
  · exact (hw _ (List.mem_of_getElem? (i := 25) rfl))
  · exact (hw _ (List.mem_of_getElem? (i := 32) rfl))
  · exact (hw _ (List.mem_of_getElem? (i := 33) rfl))
theorem own_nz {t : Term} {cs : Int32} {args : Array Value} {s : State} (ev : t.eval args s none [] s = some (.int cs)) (h : (Cond.not (Cond.eq t (.int (0 : Int32)))).value args s none s [] = some true) : ¬ cs = (0 : Int32) := by
  intro e; subst e; simp [Cond.value, Term.eval, ev] at h
theorem own_c4 {v i : Int32} (h : v = (i &&& (3 : Int32))) : v = (0 : Int32) ∨ v = (1 : Int32) ∨ v = (2 : Int32) ∨ v = (3 : Int32) := by
  have m := c_mask i 3 2 (by decide) (by decide)
  rw [← h] at m
  simp only [← Int32.toInt_inj, Int32.reduceToInt]; omega
theorem own_rf {l : List Value} (h : ∀ x ∈ l, x.isRef = true) : ∀ j, (l.getD j .null).isRef = true := by
  intro j; rw [List.getD_eq_getElem?_getD]
  cases q : l[j]? with
  | none => rfl
  | some x => exact h x (List.mem_of_getElem? q)

theorem pn9 : plainName "java/util/AbstractCollection" = true := by first | (simp [plainName, overriddenIn]; done) | decide +kernel
theorem pd9 : parseMethodDescriptor "()V" = some ⟨[], none⟩ := by decide +kernel
theorem ef9 (m : MethodId) (o0 : Addr) : entryFrame m #[(.ref o0)] 1 = mkF m 0 #[.val (.ref o0)] [] := by first | (simp [entryFrame, mkF, argsToLocals, Value.category]; done) | rfl
theorem d9_0 : decode jdk_22_method_1_code 0 = .ok (.aload_n 0, 1) := by decide +kernel
theorem d9_1 : decode jdk_22_method_1_code 1 = .ok (.invokespecial 1, 3) := by decide +kernel
theorem d9_4 : decode jdk_22_method_1_code 4 = .ok (.return_, 1) := by decide +kernel
set_option maxRecDepth 65536 in
set_option maxHeartbeats 40000000 in
theorem rm9 (l : Launch) (Z : State) (a0 : Array Value) (hw : ∀ d ∈ tables_1, d.before a0 Z = true) (o0 : Addr) (h0 : Heap) (n0 : Nat) (Z0 : n0 ≤ h0.size) :
    Ctr l Z (⟨"java/util/AbstractCollection", "<init>", "()V"⟩ : MethodName) jdk_22_method_1_code 1 none ({ frames := 1, cells := 0, slots := 0, locals := 12 } : Room) #[(.ref o0)] h0 n0 (fun v h' => v = none ∧ h' = h0) := by
  refine Ctr.body (L := #[.val (.ref o0)]) (plainFor_of_name pn9) Z0 (fun m => ef9 m o0) ?_
  intro p e F m below meth c T0 C0
  refine C0.aloadN d9_0 rfl rfl rfl ?_
  refine C0.initObj (hw _ (List.mem_of_getElem? (i := 57) rfl)) (hw _ (List.mem_of_getElem? (i := 20) rfl)) (hw _ (List.mem_of_getElem? (i := 21) rfl)) rfl (by decide) 0 (Nat.le_of_eq rfl) (by decide) d9_1 rfl (fun T1 C1 => ?_)
  exact C1.retV d9_4 rfl (by decide) (by decide) ⟨rfl, rfl⟩
theorem pn8 : plainName "java/util/AbstractList" = true := by first | (simp [plainName, overriddenIn]; done) | decide +kernel
theorem pd8 : parseMethodDescriptor "()V" = some ⟨[], none⟩ := by decide +kernel
theorem ef8 (m : MethodId) (o0 : Addr) : entryFrame m #[(.ref o0)] 1 = mkF m 0 #[.val (.ref o0)] [] := by first | (simp [entryFrame, mkF, argsToLocals, Value.category]; done) | rfl
theorem d8_0 : decode jdk_39_method_1_code 0 = .ok (.aload_n 0, 1) := by decide +kernel
theorem d8_1 : decode jdk_39_method_1_code 1 = .ok (.invokespecial 1, 3) := by decide +kernel
theorem d8_4 : decode jdk_39_method_1_code 4 = .ok (.aload_n 0, 1) := by decide +kernel
theorem d8_5 : decode jdk_39_method_1_code 5 = .ok (.iconst 0, 1) := by decide +kernel
theorem d8_6 : decode jdk_39_method_1_code 6 = .ok (.putfield 7, 3) := by decide +kernel
theorem d8_9 : decode jdk_39_method_1_code 9 = .ok (.return_, 1) := by decide +kernel
set_option maxRecDepth 65536 in
set_option maxHeartbeats 40000000 in
theorem rm8 (l : Launch) (Z : State) (a0 : Array Value) (hw : ∀ d ∈ tables_1, d.before a0 Z = true) (o0 : Addr) (x0 : Value) (x1 : Value) (h0 : Heap) (n0 : Nat) (Z0 : n0 ≤ h0.size) (E_o0 : Exa Z h0 o0 "java/util/ArrayList") (F_o0_modCount : Fld Z h0 o0 "java/util/AbstractList" "modCount" "I" x0) (F_o0_elementData : Fld Z h0 o0 "java/util/ArrayList" "elementData" "[Ljava/lang/Object;" x1) (g_o0 : n0 ≤ o0) :
    Ctr l Z (⟨"java/util/AbstractList", "<init>", "()V"⟩ : MethodName) jdk_39_method_1_code 1 none ({ frames := 2, cells := 0, slots := 0, locals := 24 } : Room) #[(.ref o0)] h0 n0 (fun v h' => v = none ∧ Keep h0 h' [o0] ∧ Exa Z h' o0 "java/util/ArrayList" ∧ Fld Z h' o0 "java/util/AbstractList" "modCount" "I" (.int (0 : Int32)) ∧ Fld Z h' o0 "java/util/ArrayList" "elementData" "[Ljava/lang/Object;" x1) := by
  refine Ctr.body (L := #[.val (.ref o0)]) (plainFor_of_name pn8) Z0 (fun m => ef8 m o0) ?_
  intro p e F m below meth c T0 C0
  have KP : Keep h0 h0 [o0] := Keep.refl h0 _
  refine C0.aloadN d8_0 rfl rfl rfl ?_
  refine C0.callN rfl (hw _ (List.mem_of_getElem? (i := 51) rfl)) (hw _ (List.mem_of_getElem? (i := 52) rfl)) (hw _ (List.mem_of_getElem? (i := 55) rfl)) (hw _ (List.mem_of_getElem? (i := 56) rfl)) (by decide) (a := o0) (rm9 l Z a0 hw o0 h0 n0 C0.size ) (argsL := []) pd9 rfl 0 (by decide) (by decide) (by decide) (by decide) (rest := []) rfl rfl (Nat.le_of_eq rfl) d8_1 rfl (fun v1 T1 h1 C1 qq1 => ?_)
  obtain ⟨rfl, hh1⟩ := qq1
  have hh1 := hh1.symm; subst hh1
  show Go p e below F n0 (fun v h' => v = none ∧ Keep h0 h' [o0] ∧ Exa Z h' o0 "java/util/ArrayList" ∧ Fld Z h' o0 "java/util/AbstractList" "modCount" "I" (.int (0 : Int32)) ∧ Fld Z h' o0 "java/util/ArrayList" "elementData" "[Ljava/lang/Object;" x1) T1 (mkF m 4 #[.val (.ref o0)] [])
  refine C1.aloadN d8_4 rfl rfl rfl ?_
  refine C1.iconst (0 : Int32) d8_5 rfl rfl ?_
  refine C1.putF (host := "") (Or.inl (hw _ (List.mem_of_getElem? (i := 58) rfl))) Via.refl F_o0_modCount E_o0 (Or.inl (hw _ (List.mem_of_getElem? (i := 59) rfl))) (hw _ (List.mem_of_getElem? (i := 40) rfl)) (ty := .int) (by decide) rfl rfl g_o0 d8_6 rfl (fun T2 h2 C2 W2 => ?_)
  have E_o0 := E_o0.wr W2
  have F_o0_elementData := F_o0_elementData.other W2 (Or.inr (slot_ne (Or.inl (hw _ (List.mem_of_getElem? (i := 62) rfl))) (Or.inl (hw _ (List.mem_of_getElem? (i := 59) rfl))) (by decide) (t := (.array (.object "java/lang/Object"))) (t' := .int) (by decide) (by decide)))
  have KP := KP.wr W2 (Or.inl (by simp))
  have F_o0_modCount := F_o0_modCount.same W2
  exact C2.retV d8_9 rfl (by decide) (by decide) ⟨rfl, KP, E_o0, F_o0_modCount, F_o0_elementData⟩
theorem pn7 : plainName "java/util/ArrayList" = true := by first | (simp [plainName, overriddenIn]; done) | decide +kernel
theorem pd7 : parseMethodDescriptor "()V" = some ⟨[], none⟩ := by decide +kernel
theorem ef7 (m : MethodId) (o0 : Addr) : entryFrame m #[(.ref o0)] 1 = mkF m 0 #[.val (.ref o0)] [] := by first | (simp [entryFrame, mkF, argsToLocals, Value.category]; done) | rfl
theorem d7_0 : decode jdk_38_method_2_code 0 = .ok (.aload_n 0, 1) := by decide +kernel
theorem d7_1 : decode jdk_38_method_2_code 1 = .ok (.invokespecial 1, 3) := by decide +kernel
theorem d7_4 : decode jdk_38_method_2_code 4 = .ok (.aload_n 0, 1) := by decide +kernel
theorem d7_5 : decode jdk_38_method_2_code 5 = .ok (.getstatic 39, 3) := by decide +kernel
theorem d7_8 : decode jdk_38_method_2_code 8 = .ok (.putfield 9, 3) := by decide +kernel
theorem d7_11 : decode jdk_38_method_2_code 11 = .ok (.return_, 1) := by decide +kernel
set_option maxRecDepth 65536 in
set_option maxHeartbeats 40000000 in
theorem rm7 (l : Launch) (Z : State) (a0 : Array Value) (hw : ∀ d ∈ tables_1, d.before a0 Z = true) (o0 : Addr) (de : Addr) (x0 : Value) (x1 : Value) (h0 : Heap) (n0 : Nat) (Z0 : n0 ≤ h0.size) (E_o0 : Exa Z h0 o0 "java/util/ArrayList") (F_o0_modCount : Fld Z h0 o0 "java/util/AbstractList" "modCount" "I" x0) (F_o0_elementData : Fld Z h0 o0 "java/util/ArrayList" "elementData" "[Ljava/lang/Object;" x1) (g_o0 : n0 ≤ o0) (S_DEFAULTCAPACITY_EMPTY_ELEMENTDATA : Sta Z h0 "java/util/ArrayList" "DEFAULTCAPACITY_EMPTY_ELEMENTDATA" "[Ljava/lang/Object;" (.ref de)) :
    Ctr l Z (⟨"java/util/ArrayList", "<init>", "()V"⟩ : MethodName) jdk_38_method_2_code 1 none ({ frames := 3, cells := 0, slots := 0, locals := 36 } : Room) #[(.ref o0)] h0 n0 (fun v h' => v = none ∧ Keep h0 h' [o0] ∧ Exa Z h' o0 "java/util/ArrayList") := by
  refine Ctr.body (L := #[.val (.ref o0)]) (plainFor_of_name pn7) Z0 (fun m => ef7 m o0) ?_
  intro p e F m below meth c T0 C0
  have KP : Keep h0 h0 [o0] := Keep.refl h0 _
  refine C0.aloadN d7_0 rfl rfl rfl ?_
  refine C0.callN rfl (hw _ (List.mem_of_getElem? (i := 45) rfl)) (hw _ (List.mem_of_getElem? (i := 46) rfl)) (hw _ (List.mem_of_getElem? (i := 49) rfl)) (hw _ (List.mem_of_getElem? (i := 50) rfl)) (by decide) (a := o0) (rm8 l Z a0 hw o0 x0 x1 h0 n0 C0.size E_o0 F_o0_modCount F_o0_elementData g_o0) (argsL := []) pd8 rfl 0 (by decide) (by decide) (by decide) (by decide) (rest := []) rfl rfl (Nat.le_of_eq rfl) d7_1 rfl (fun v1 T1 h1 C1 qq1 => ?_)
  obtain ⟨rfl, K1, p1_0, p1_1, p1_2⟩ := qq1
  have S_DEFAULTCAPACITY_EMPTY_ELEMENTDATA := own_stak S_DEFAULTCAPACITY_EMPTY_ELEMENTDATA K1 (allS (own_plainE E_o0) (all0))
  have E_o0 := E_o0.keep K1
  have KP := KP.trans K1 (allS (Or.inl (by simp)) (all0))
  have E_o0 := p1_0
  have F_o0_modCount := p1_1
  have F_o0_elementData := p1_2
  show Go p e below F n0 (fun v h' => v = none ∧ Keep h0 h' [o0] ∧ Exa Z h' o0 "java/util/ArrayList") T1 (mkF m 4 #[.val (.ref o0)] [])
  refine C1.aloadN d7_4 rfl rfl rfl ?_
  refine C1.getS (host := "") (Or.inl (hw _ (List.mem_of_getElem? (i := 60) rfl))) Via.refl S_DEFAULTCAPACITY_EMPTY_ELEMENTDATA d7_5 rfl (fun T2 C2 => ?_)
  refine C2.putF (host := "") (Or.inl (hw _ (List.mem_of_getElem? (i := 61) rfl))) Via.refl F_o0_elementData E_o0 (Or.inl (hw _ (List.mem_of_getElem? (i := 62) rfl))) (hw _ (List.mem_of_getElem? (i := 40) rfl)) (ty := (.array (.object "java/lang/Object"))) (by decide) rfl rfl g_o0 d7_8 rfl (fun T3 h3 C3 W3 => ?_)
  have E_o0 := E_o0.wr W3
  have S_DEFAULTCAPACITY_EMPTY_ELEMENTDATA := S_DEFAULTCAPACITY_EMPTY_ELEMENTDATA.wr W3
  have F_o0_modCount := F_o0_modCount.other W3 (Or.inr (slot_ne (Or.inl (hw _ (List.mem_of_getElem? (i := 59) rfl))) (Or.inl (hw _ (List.mem_of_getElem? (i := 62) rfl))) (by decide) (t := .int) (t' := (.array (.object "java/lang/Object"))) (by decide) (by decide)))
  have KP := KP.wr W3 (Or.inl (by simp))
  have F_o0_elementData := F_o0_elementData.same W3
  exact C3.retV d7_11 rfl (by decide) (by decide) ⟨rfl, KP, E_o0⟩
def f2 (i0 : Int32) : Int32 := if (255 : Int32) < i0 then (0 : Int32) else ((1 : Int32))
theorem pn2 : plainName "java/lang/StringLatin1" = true := by first | (simp [plainName, overriddenIn]; done) | decide +kernel
theorem pd2 : parseMethodDescriptor "(C)Z" = some ⟨[.char], some .boolean⟩ := by decide +kernel
theorem ef2 (m : MethodId) (i0 : Int32) : entryFrame m #[(.int i0)] 1 = mkF m 0 #[.val (.int i0)] [] := by first | (simp [entryFrame, mkF, argsToLocals, Value.category]; done) | rfl
theorem d2_0 : decode jdk_43_method_3_code 0 = .ok (.iload_n 0, 1) := by decide +kernel
theorem d2_1 : decode jdk_43_method_3_code 1 = .ok (.sipush 255, 3) := by decide +kernel
theorem d2_4 : decode jdk_43_method_3_code 4 = .ok (.if_icmp .gt 7, 3) := by decide +kernel
theorem d2_7 : decode jdk_43_method_3_code 7 = .ok (.iconst 1, 1) := by decide +kernel
theorem d2_8 : decode jdk_43_method_3_code 8 = .ok (.goto 4, 3) := by decide +kernel
theorem d2_11 : decode jdk_43_method_3_code 11 = .ok (.iconst 0, 1) := by decide +kernel
theorem d2_12 : decode jdk_43_method_3_code 12 = .ok (.ireturn, 1) := by decide +kernel
set_option maxRecDepth 65536 in
set_option maxHeartbeats 40000000 in
theorem rm2 (l : Launch) (Z : State) (a0 : Array Value) (hw : ∀ d ∈ tables_1, d.before a0 Z = true) (i0 : Int32) (h0 : Heap) (n0 : Nat) (Z0 : n0 ≤ h0.size) :
    Ctr l Z (⟨"java/lang/StringLatin1", "canEncode", "(C)Z"⟩ : MethodName) jdk_43_method_3_code 1 (some .boolean) ({ frames := 0, cells := 0, slots := 0, locals := 0 } : Room) #[(.int i0)] h0 n0 (fun v h' => v = some (.int (f2 i0)) ∧ h' = h0) := by
  refine Ctr.body (L := #[.val (.int i0)]) (plainFor_of_name pn2) Z0 (fun m => ef2 m i0) ?_
  intro p e F m below meth c T0 C0
  refine C0.iloadN d2_0 rfl rfl ?_
  refine C0.sipush (255 : Int32) d2_1 rfl rfl ?_
  refine C0.icmp_gt d2_4 (by decide) (by decide : _ = 11) rfl (fun c4 => ?_) (fun c4 => ?_)
  · refine C0.iconst (0 : Int32) d2_11 rfl rfl ?_
    exact C0.retN (t := .boolean) d2_12 rfl (by simp) (by decide) (by decide) (w := (0 : Int32)) rfl ⟨by rw [f2, if_pos c4], rfl⟩
  · refine C0.iconst (1 : Int32) d2_7 rfl rfl ?_
    refine C0.goto d2_8 (by decide) (by decide : _ = 12) ?_
    exact C0.retN (t := .boolean) d2_12 rfl (by simp) (by decide) (by decide) (w := (1 : Int32)) rfl ⟨by rw [f2, if_neg c4], rfl⟩
theorem pn3 : plainName "java/lang/StringLatin1" = true := by first | (simp [plainName, overriddenIn]; done) | decide +kernel
theorem pd3 : parseMethodDescriptor "(C)[B" = some ⟨[.char], some (.array .byte)⟩ := by decide +kernel
theorem ef3 (m : MethodId) (i0 : Int32) : entryFrame m #[(.int i0)] 1 = mkF m 0 #[.val (.int i0)] [] := by first | (simp [entryFrame, mkF, argsToLocals, Value.category]; done) | rfl
theorem d3_0 : decode jdk_43_method_46_code 0 = .ok (.iconst 1, 1) := by decide +kernel
theorem d3_1 : decode jdk_43_method_46_code 1 = .ok (.newarray .byte, 2) := by decide +kernel
theorem d3_3 : decode jdk_43_method_46_code 3 = .ok (.dup, 1) := by decide +kernel
theorem d3_4 : decode jdk_43_method_46_code 4 = .ok (.iconst 0, 1) := by decide +kernel
theorem d3_5 : decode jdk_43_method_46_code 5 = .ok (.iload_n 0, 1) := by decide +kernel
theorem d3_6 : decode jdk_43_method_46_code 6 = .ok (.i2b, 1) := by decide +kernel
theorem d3_7 : decode jdk_43_method_46_code 7 = .ok (.bastore, 1) := by decide +kernel
theorem d3_8 : decode jdk_43_method_46_code 8 = .ok (.areturn, 1) := by decide +kernel
set_option maxRecDepth 65536 in
set_option maxHeartbeats 40000000 in
theorem rm3 (l : Launch) (Z : State) (a0 : Array Value) (hw : ∀ d ∈ tables_1, d.before a0 Z = true) (i0 : Int32) (h0 : Heap) (n0 : Nat) (Z0 : n0 ≤ h0.size) :
    Ctr l Z (⟨"java/lang/StringLatin1", "toBytes", "(C)[B"⟩ : MethodName) jdk_43_method_46_code 1 (some (.array .byte)) ({ frames := 0, cells := 1, slots := 1, locals := 0 } : Room) #[(.int i0)] h0 n0 (fun v h' => ∃ bo : Addr, v = some (.ref bo) ∧ Keep h0 h' []) := by
  refine Ctr.body (L := #[.val (.int i0)]) (plainFor_of_name pn3) Z0 (fun m => ef3 m i0) ?_
  intro p e F m below meth c T0 C0
  have KP : Keep h0 h0 [] := Keep.refl h0 _
  refine C0.iconst (1 : Int32) d3_0 rfl rfl ?_
  refine C0.newarr (hw _ (List.mem_of_getElem? (i := 14) rfl)) 1 (by decide) (by decide) (by decide) (by decide) (by decide) d3_1 rfl (fun T1 h1 b1 k1 C1 e1 g_b1 E1 V_b1 => ?_)
  have sz_b1 : h0.size ≤ b1 := Nat.le_trans KP.1 (Nat.le_of_eq e1.symm)
  have KP := KP.ext E1
  have V_b1 : Arv Z h1 b1 k1 .byte (1 : Int32) [(.int (0 : Int32))] (.int (0 : Int32)) := V_b1
  refine C1.dup d3_3 rfl rfl ?_
  refine C1.iconst (0 : Int32) d3_4 rfl rfl ?_
  refine C1.iloadN d3_5 rfl rfl ?_
  refine C1.i2b d3_6 rfl ?_
  refine C1.bastore V_b1 ⟨by decide, by decide⟩ (Nat.le_of_ble_eq_true rfl) g_b1 d3_7 rfl (fun T2 h2 C2 W2 Vn2 => ?_)
  have KP := KP.wr W2 (Or.inr sz_b1)
  have V_b1 : Arv Z h2 b1 k1 .byte (1 : Int32) [(.int (nar .byte (i0.toInt8.toInt32)))] (.int (0 : Int32)) := Vn2
  exact C2.retA d3_8 rfl rfl rfl (by decide) (by decide) ⟨b1, rfl, KP⟩
theorem pn4 : plainName "java/lang/String" = true := by first | (simp [plainName, overriddenIn]; done) | decide +kernel
theorem pd4 : parseMethodDescriptor "([BB)V" = some ⟨[(.array .byte), .byte], none⟩ := by decide +kernel
theorem ef4 (m : MethodId) (o0 : Addr) (o1 : Addr) (i2 : Int32) : entryFrame m #[(.ref o0), (.ref o1), (.int i2)] 3 = mkF m 0 #[.val (.ref o0), .val (.ref o1), .val (.int i2)] [] := by first | (simp [entryFrame, mkF, argsToLocals, Value.category]; done) | rfl
theorem d4_0 : decode jdk_42_method_151_code 0 = .ok (.aload_n 0, 1) := by decide +kernel
theorem d4_1 : decode jdk_42_method_151_code 1 = .ok (.invokespecial 1, 3) := by decide +kernel
theorem d4_4 : decode jdk_42_method_151_code 4 = .ok (.aload_n 0, 1) := by decide +kernel
theorem d4_5 : decode jdk_42_method_151_code 5 = .ok (.aload_n 1, 1) := by decide +kernel
theorem d4_6 : decode jdk_42_method_151_code 6 = .ok (.putfield 9, 3) := by decide +kernel
theorem d4_9 : decode jdk_42_method_151_code 9 = .ok (.aload_n 0, 1) := by decide +kernel
theorem d4_10 : decode jdk_42_method_151_code 10 = .ok (.iload_n 2, 1) := by decide +kernel
theorem d4_11 : decode jdk_42_method_151_code 11 = .ok (.putfield 15, 3) := by decide +kernel
theorem d4_14 : decode jdk_42_method_151_code 14 = .ok (.return_, 1) := by decide +kernel
set_option maxRecDepth 65536 in
set_option maxHeartbeats 40000000 in
theorem rm4 (l : Launch) (Z : State) (a0 : Array Value) (hw : ∀ d ∈ tables_1, d.before a0 Z = true) (o0 : Addr) (o1 : Addr) (i2 : Int32) (x0 : Value) (x1 : Value) (h0 : Heap) (n0 : Nat) (Z0 : n0 ≤ h0.size) (E_o0 : Exa Z h0 o0 "java/lang/String") (F_o0_value : Fld Z h0 o0 "java/lang/String" "value" "[B" x0) (F_o0_coder : Fld Z h0 o0 "java/lang/String" "coder" "B" x1) (g_o0 : n0 ≤ o0) :
    Ctr l Z (⟨"java/lang/String", "<init>", "([BB)V"⟩ : MethodName) jdk_42_method_151_code 3 none ({ frames := 1, cells := 0, slots := 0, locals := 12 } : Room) #[(.ref o0), (.ref o1), (.int i2)] h0 n0 (fun v h' => v = none ∧ Keep h0 h' [o0] ∧ Exa Z h' o0 "java/lang/String") := by
  refine Ctr.body (L := #[.val (.ref o0), .val (.ref o1), .val (.int i2)]) (plainFor_of_name pn4) Z0 (fun m => ef4 m o0 o1 i2) ?_
  intro p e F m below meth c T0 C0
  have KP : Keep h0 h0 [o0] := Keep.refl h0 _
  refine C0.aloadN d4_0 rfl rfl rfl ?_
  refine C0.initObj (hw _ (List.mem_of_getElem? (i := 19) rfl)) (hw _ (List.mem_of_getElem? (i := 20) rfl)) (hw _ (List.mem_of_getElem? (i := 21) rfl)) rfl (by decide) 0 (Nat.le_of_eq rfl) (by decide) d4_1 rfl (fun T1 C1 => ?_)
  refine C1.aloadN d4_4 rfl rfl rfl ?_
  refine C1.aloadN d4_5 rfl rfl rfl ?_
  refine C1.putF (host := "") (Or.inl (hw _ (List.mem_of_getElem? (i := 22) rfl))) Via.refl F_o0_value E_o0 (Or.inr ⟨(hw _ (List.mem_of_getElem? (i := 23) rfl)), rfl, rfl⟩) (hw _ (List.mem_of_getElem? (i := 10) rfl)) (ty := (.array .byte)) (by decide) rfl rfl g_o0 d4_6 rfl (fun T2 h2 C2 W2 => ?_)
  have E_o0 := E_o0.wr W2
  have F_o0_coder := F_o0_coder.other W2 (Or.inr (slot_ne (Or.inr (hw _ (List.mem_of_getElem? (i := 25) rfl))) (Or.inr (hw _ (List.mem_of_getElem? (i := 23) rfl))) (by decide) (t := .byte) (t' := (.array .byte)) (by decide) (by decide)))
  have KP := KP.wr W2 (Or.inl (by simp))
  have F_o0_value := F_o0_value.same W2
  refine C2.aloadN d4_9 rfl rfl rfl ?_
  refine C2.iloadN d4_10 rfl rfl ?_
  refine C2.putFN (v' := (.int (nar .byte i2))) (hw _ (List.mem_of_getElem? (i := 24) rfl)) Via.refl F_o0_coder E_o0 (Or.inr ⟨(hw _ (List.mem_of_getElem? (i := 25) rfl)), rfl, rfl⟩) (hw _ (List.mem_of_getElem? (i := 10) rfl)) (ty := .byte) (by decide) rfl (fits_nar_byte _) g_o0 d4_11 rfl (fun T3 h3 C3 W3 => ?_)
  have E_o0 := E_o0.wr W3
  have F_o0_value := F_o0_value.other W3 (Or.inr (slot_ne (Or.inr (hw _ (List.mem_of_getElem? (i := 23) rfl))) (Or.inr (hw _ (List.mem_of_getElem? (i := 25) rfl))) (by decide) (t := (.array .byte)) (t' := .byte) (by decide) (by decide)))
  have KP := KP.wr W3 (Or.inl (by simp))
  have F_o0_coder := F_o0_coder.same W3
  exact C3.retV d4_14 rfl (by decide) (by decide) ⟨rfl, KP, E_o0⟩
theorem pn1 : plainName "java/lang/String" = true := by first | (simp [plainName, overriddenIn]; done) | decide +kernel
theorem pd1 : parseMethodDescriptor "(C)Ljava/lang/String;" = some ⟨[.char], some (.object "java/lang/String")⟩ := by decide +kernel
theorem ef1 (m : MethodId) (i0 : Int32) : entryFrame m #[(.int i0)] 1 = mkF m 0 #[.val (.int i0)] [] := by first | (simp [entryFrame, mkF, argsToLocals, Value.category]; done) | rfl
theorem d1_0 : decode jdk_42_method_139_code 0 = .ok (.getstatic 38, 3) := by decide +kernel
theorem d1_3 : decode jdk_42_method_139_code 3 = .ok (.ifCond .eq 23, 3) := by decide +kernel
theorem d1_6 : decode jdk_42_method_139_code 6 = .ok (.iload_n 0, 1) := by decide +kernel
theorem d1_7 : decode jdk_42_method_139_code 7 = .ok (.invokestatic 1015, 3) := by decide +kernel
theorem d1_10 : decode jdk_42_method_139_code 10 = .ok (.ifCond .eq 16, 3) := by decide +kernel
theorem d1_13 : decode jdk_42_method_139_code 13 = .ok (.new 10, 3) := by decide +kernel
theorem d1_16 : decode jdk_42_method_139_code 16 = .ok (.dup, 1) := by decide +kernel
theorem d1_17 : decode jdk_42_method_139_code 17 = .ok (.iload_n 0, 1) := by decide +kernel
theorem d1_18 : decode jdk_42_method_139_code 18 = .ok (.invokestatic 1018, 3) := by decide +kernel
theorem d1_21 : decode jdk_42_method_139_code 21 = .ok (.iconst 0, 1) := by decide +kernel
theorem d1_22 : decode jdk_42_method_139_code 22 = .ok (.invokespecial 209, 3) := by decide +kernel
theorem d1_25 : decode jdk_42_method_139_code 25 = .ok (.areturn, 1) := by decide +kernel
set_option maxRecDepth 65536 in
set_option maxHeartbeats 40000000 in
theorem rm1 (l : Launch) (Z : State) (a0 : Array Value) (hw : ∀ d ∈ tables_1, d.before a0 Z = true) (i0 : Int32) (cs : Int32) (h0 : Heap) (n0 : Nat) (Z0 : n0 ≤ h0.size) (S_COMPACT_STRINGS : Sta Z h0 "java/lang/String" "COMPACT_STRINGS" "Z" (.int cs)) (hcs : ¬ cs = (0 : Int32)) (hc : ¬ (255 : Int32) < i0) :
    Ctr l Z (⟨"java/lang/String", "valueOf", "(C)Ljava/lang/String;"⟩ : MethodName) jdk_42_method_139_code 1 (some (.object "java/lang/String")) ({ frames := 2, cells := 2, slots := 5, locals := 27 } : Room) #[(.int i0)] h0 n0 (fun v h' => ∃ bs : Addr, v = some (.ref bs) ∧ Keep h0 h' [] ∧ Exa Z h' bs "java/lang/String" ∧ n0 ≤ bs) := by
  refine Ctr.body (L := #[.val (.int i0)]) (plainFor_of_name pn1) Z0 (fun m => ef1 m i0) ?_
  intro p e F m below meth c T0 C0
  have KP : Keep h0 h0 [] := Keep.refl h0 _
  refine C0.getS (host := "") (Or.inl (hw _ (List.mem_of_getElem? (i := 4) rfl))) Via.refl S_COMPACT_STRINGS d1_0 rfl (fun T1 C1 => ?_)
  refine C1.if_eq d1_3 (by decide) (by decide : _ = 26) rfl (fun q => absurd q hcs) (fun _ => ?_)
  refine C1.iloadN d1_6 rfl rfl ?_
  refine C1.callS (hw _ (List.mem_of_getElem? (i := 5) rfl)) (hw _ (List.mem_of_getElem? (i := 6) rfl)) (hw _ (List.mem_of_getElem? (i := 7) rfl)) (hw _ (List.mem_of_getElem? (i := 8) rfl)) (by decide) (rm2 l Z a0 hw i0 h0 n0 C1.size ) (argsL := [(.int i0)]) pd2 rfl 0 (by decide) (by decide) (by decide) (by decide) (rest := []) rfl rfl (Nat.le_of_eq rfl) d1_7 rfl (fun v2 T2 h2 C2 qq2 => ?_)
  obtain ⟨rfl, hh2⟩ := qq2
  have hh2 := hh2.symm; subst hh2
  show Go p e below F n0 (fun v h' => ∃ bs : Addr, v = some (.ref bs) ∧ Keep h0 h' [] ∧ Exa Z h' bs "java/lang/String" ∧ n0 ≤ bs) T2 (mkF m 10 #[.val (.int i0)] [(.int (f2 i0))])
  refine C2.if_eq d1_10 (by decide) (by decide : _ = 26) rfl (fun q => absurd q (by rw [f2, if_neg hc]; decide)) (fun _ => ?_)
  refine C2.new (hw _ (List.mem_of_getElem? (i := 9) rfl)) (hw _ (List.mem_of_getElem? (i := 10) rfl)) (hw _ (List.mem_of_getElem? (i := 2) rfl)) d1_13 rfl (by decide) (by decide) (fun T3 h3 b3 C3 e3 g_b3 E3 E_b3 D3 => ?_)
  have sz_b3 : h0.size ≤ b3 := Nat.le_trans KP.1 (Nat.le_of_eq e3.symm)
  have S_COMPACT_STRINGS := S_COMPACT_STRINGS.ext E3
  have KP := KP.ext E3
  have F_b3_value : Fld Z h3 b3 "java/lang/String" "value" "[B" .null := D3 (Or.inr (hw _ (List.mem_of_getElem? (i := 23) rfl))) (ty := (.array .byte)) (by decide)
  have F_b3_coder : Fld Z h3 b3 "java/lang/String" "coder" "B" (.int (0 : Int32)) := D3 (Or.inr (hw _ (List.mem_of_getElem? (i := 25) rfl))) (ty := .byte) (by decide)
  refine C3.dup d1_16 rfl rfl ?_
  refine C3.iloadN d1_17 rfl rfl ?_
  refine C3.callS (hw _ (List.mem_of_getElem? (i := 11) rfl)) (hw _ (List.mem_of_getElem? (i := 12) rfl)) (hw _ (List.mem_of_getElem? (i := 7) rfl)) (hw _ (List.mem_of_getElem? (i := 13) rfl)) (by decide) (rm3 l Z a0 hw i0 h3 n0 C3.size ) (argsL := [(.int i0)]) pd3 rfl 2 (by decide) (by decide) (by decide) (by decide) (rest := [(.ref b3), (.ref b3)]) rfl rfl (Nat.le_of_eq rfl) d1_18 rfl (fun v4 T4 h4 C4 qq4 => ?_)
  obtain ⟨bo4, rfl, K4⟩ := qq4
  have K4 := ext_keep K4
  have S_COMPACT_STRINGS := S_COMPACT_STRINGS.ext K4
  have E_b3 := E_b3.ext K4
  have F_b3_value := F_b3_value.ext K4
  have F_b3_coder := F_b3_coder.ext K4
  have KP := KP.ext K4
  show Go p e below F n0 (fun v h' => ∃ bs : Addr, v = some (.ref bs) ∧ Keep h0 h' [] ∧ Exa Z h' bs "java/lang/String" ∧ n0 ≤ bs) T4 (mkF m 21 #[.val (.int i0)] [(.ref bo4), (.ref b3), (.ref b3)])
  refine C4.iconst (0 : Int32) d1_21 rfl rfl ?_
  refine C4.callN rfl (hw _ (List.mem_of_getElem? (i := 15) rfl)) (hw _ (List.mem_of_getElem? (i := 16) rfl)) (hw _ (List.mem_of_getElem? (i := 2) rfl)) (hw _ (List.mem_of_getElem? (i := 18) rfl)) (by decide) (a := b3) (rm4 l Z a0 hw b3 bo4 (0 : Int32) .null (.int (0 : Int32)) h4 n0 C4.size E_b3 F_b3_value F_b3_coder g_b3) (argsL := [(.ref bo4), (.int (0 : Int32))]) pd4 rfl 1 (by decide) (by decide) (by decide) (by decide) (rest := [(.ref b3)]) rfl rfl (Nat.le_of_eq rfl) d1_22 rfl (fun v5 T5 h5 C5 qq5 => ?_)
  obtain ⟨rfl, K5, p5_0⟩ := qq5
  have S_COMPACT_STRINGS := own_stak S_COMPACT_STRINGS K5 (allS (own_plainE E_b3) (all0))
  have E_b3 := E_b3.keep K5
  have KP := KP.trans K5 (allS (Or.inr sz_b3) (all0))
  have E_b3 := p5_0
  show Go p e below F n0 (fun v h' => ∃ bs : Addr, v = some (.ref bs) ∧ Keep h0 h' [] ∧ Exa Z h' bs "java/lang/String" ∧ n0 ≤ bs) T5 (mkF m 25 #[.val (.int i0)] [(.ref b3)])
  exact C5.retA d1_25 rfl rfl rfl (by decide) (by decide) ⟨b3, rfl, KP, E_b3, g_b3⟩
theorem pn6 : plainName "com/example/bouncer/bouncer/cli/Arguments" = true := by first | (simp [plainName, overriddenIn]; done) | decide +kernel
theorem pd6 : parseMethodDescriptor "(Ljava/lang/String;Ljava/lang/String;[Ljava/lang/String;I)V" = some ⟨[(.object "java/lang/String"), (.object "java/lang/String"), (.array (.object "java/lang/String")), .int], none⟩ := by decide +kernel
theorem ef6 (m : MethodId) (o0 : Addr) (o1 : Addr) (o2 : Addr) (o3 : Addr) (i4 : Int32) : entryFrame m #[(.ref o0), (.ref o1), (.ref o2), (.ref o3), (.int i4)] 5 = mkF m 0 #[.val (.ref o0), .val (.ref o1), .val (.ref o2), .val (.ref o3), .val (.int i4)] [] := by first | (simp [entryFrame, mkF, argsToLocals, Value.category]; done) | rfl
theorem d6_0 : decode prog_26_method_1_code 0 = .ok (.aload_n 0, 1) := by decide +kernel
theorem d6_1 : decode prog_26_method_1_code 1 = .ok (.invokespecial 1, 3) := by decide +kernel
theorem d6_4 : decode prog_26_method_1_code 4 = .ok (.aload_n 0, 1) := by decide +kernel
theorem d6_5 : decode prog_26_method_1_code 5 = .ok (.new 7, 3) := by decide +kernel
theorem d6_8 : decode prog_26_method_1_code 8 = .ok (.dup, 1) := by decide +kernel
theorem d6_9 : decode prog_26_method_1_code 9 = .ok (.invokespecial 9, 3) := by decide +kernel
theorem d6_12 : decode prog_26_method_1_code 12 = .ok (.putfield 10, 3) := by decide +kernel
theorem d6_15 : decode prog_26_method_1_code 15 = .ok (.aload_n 0, 1) := by decide +kernel
theorem d6_16 : decode prog_26_method_1_code 16 = .ok (.aload_n 1, 1) := by decide +kernel
theorem d6_17 : decode prog_26_method_1_code 17 = .ok (.putfield 16, 3) := by decide +kernel
theorem d6_20 : decode prog_26_method_1_code 20 = .ok (.aload_n 0, 1) := by decide +kernel
theorem d6_21 : decode prog_26_method_1_code 21 = .ok (.aload_n 2, 1) := by decide +kernel
theorem d6_22 : decode prog_26_method_1_code 22 = .ok (.putfield 20, 3) := by decide +kernel
theorem d6_25 : decode prog_26_method_1_code 25 = .ok (.aload_n 0, 1) := by decide +kernel
theorem d6_26 : decode prog_26_method_1_code 26 = .ok (.aload_n 3, 1) := by decide +kernel
theorem d6_27 : decode prog_26_method_1_code 27 = .ok (.invokevirtual 23, 3) := by decide +kernel
theorem d6_30 : decode prog_26_method_1_code 30 = .ok (.checkcast 24, 3) := by decide +kernel
theorem d6_33 : decode prog_26_method_1_code 33 = .ok (.putfield 29, 3) := by decide +kernel
theorem d6_36 : decode prog_26_method_1_code 36 = .ok (.aload_n 0, 1) := by decide +kernel
theorem d6_37 : decode prog_26_method_1_code 37 = .ok (.iload 4, 2) := by decide +kernel
theorem d6_39 : decode prog_26_method_1_code 39 = .ok (.putfield 32, 3) := by decide +kernel
theorem d6_42 : decode prog_26_method_1_code 42 = .ok (.return_, 1) := by decide +kernel
set_option maxRecDepth 65536 in
set_option maxHeartbeats 40000000 in
theorem rm6 (l : Launch) (Z : State) (a0 : Array Value) (hw : ∀ d ∈ tables_1, d.before a0 Z = true) (o0 : Addr) (o1 : Addr) (o2 : Addr) (o3 : Addr) (i4 : Int32) (de : Addr) (x0 : Value) (x1 : Value) (x2 : Value) (x3 : Value) (x4 : Value) (k1 : ClassId) (n1 : Int32) (vs : List Value) (dv : Value) (h0 : Heap) (n0 : Nat) (Z0 : n0 ≤ h0.size) (E_o0 : Exa Z h0 o0 "com/example/bouncer/bouncer/cli/Arguments") (F_o0_operands : Fld Z h0 o0 "com/example/bouncer/bouncer/cli/Arguments" "operands" "Ljava/util/List;" x0) (F_o0_command : Fld Z h0 o0 "com/example/bouncer/bouncer/cli/Arguments" "command" "Ljava/lang/String;" x1) (F_o0_usage : Fld Z h0 o0 "com/example/bouncer/bouncer/cli/Arguments" "usage" "Ljava/lang/String;" x2) (F_o0_arguments : Fld Z h0 o0 "com/example/bouncer/bouncer/cli/Arguments" "arguments" "[Ljava/lang/String;" x3) (F_o0_maxOperands : Fld Z h0 o0 "com/example/bouncer/bouncer/cli/Arguments" "maxOperands" "I" x4) (F_o0_next : Fld Z h0 o0 "com/example/bouncer/bouncer/cli/Arguments" "next" "I" (.int (0 : Int32))) (g_o0 : n0 ≤ o0) (S_DEFAULTCAPACITY_EMPTY_ELEMENTDATA : Sta Z h0 "java/util/ArrayList" "DEFAULTCAPACITY_EMPTY_ELEMENTDATA" "[Ljava/lang/Object;" (.ref de)) (E_o3 : Exa Z h0 o3 "[Ljava/lang/String;") (V_o3 : Arv Z h0 o3 k1 (.object "java/lang/String") n1 vs dv) (hc3 : (n1).toNatClampNeg ≤ 3) :
    Ctr l Z (⟨"com/example/bouncer/bouncer/cli/Arguments", "<init>", "(Ljava/lang/String;Ljava/lang/String;[Ljava/lang/String;I)V"⟩ : MethodName) prog_26_method_1_code 5 none ({ frames := 4, cells := 2, slots := 6, locals := 50 } : Room) #[(.ref o0), (.ref o1), (.ref o2), (.ref o3), (.int i4)] h0 n0 (fun v h' => ∃ bc : Addr, v = none ∧ Keep h0 h' [o0] ∧ Exa Z h' o0 "com/example/bouncer/bouncer/cli/Arguments" ∧ Fld Z h' o0 "com/example/bouncer/bouncer/cli/Arguments" "arguments" "[Ljava/lang/String;" (.ref bc) ∧ Fld Z h' o0 "com/example/bouncer/bouncer/cli/Arguments" "next" "I" (.int (0 : Int32)) ∧ Exa Z h' bc "[Ljava/lang/String;" ∧ Arv Z h' bc k1 (.object "java/lang/String") n1 vs dv ∧ n0 ≤ bc) := by
  refine Ctr.body (L := #[.val (.ref o0), .val (.ref o1), .val (.ref o2), .val (.ref o3), .val (.int i4)]) (plainFor_of_name pn6) Z0 (fun m => ef6 m o0 o1 o2 o3 i4) ?_
  intro p e F m below meth c T0 C0
  have KP : Keep h0 h0 [o0] := Keep.refl h0 _
  refine C0.aloadN d6_0 rfl rfl rfl ?_
  refine C0.initObj (hw _ (List.mem_of_getElem? (i := 38) rfl)) (hw _ (List.mem_of_getElem? (i := 20) rfl)) (hw _ (List.mem_of_getElem? (i := 21) rfl)) rfl (by decide) 0 (Nat.le_of_eq rfl) (by decide) d6_1 rfl (fun T1 C1 => ?_)
  refine C1.aloadN d6_4 rfl rfl rfl ?_
  refine C1.new (hw _ (List.mem_of_getElem? (i := 39) rfl)) (hw _ (List.mem_of_getElem? (i := 40) rfl)) (hw _ (List.mem_of_getElem? (i := 41) rfl)) d6_5 rfl (by decide) (by decide) (fun T2 h2 b2 C2 e2 g_b2 E2 E_b2 D2 => ?_)
  have ne_o0_b2 : o0 ≠ b2 := Nat.ne_of_lt (Nat.lt_of_lt_of_eq E_o0.lt e2.symm)
  have ne_o3_b2 : o3 ≠ b2 := Nat.ne_of_lt (Nat.lt_of_lt_of_eq E_o3.lt e2.symm)
  have sz_b2 : h0.size ≤ b2 := Nat.le_trans KP.1 (Nat.le_of_eq e2.symm)
  have E_o0 := E_o0.ext E2
  have F_o0_operands := F_o0_operands.ext E2
  have F_o0_command := F_o0_command.ext E2
  have F_o0_usage := F_o0_usage.ext E2
  have F_o0_arguments := F_o0_arguments.ext E2
  have F_o0_maxOperands := F_o0_maxOperands.ext E2
  have F_o0_next := F_o0_next.ext E2
  have S_DEFAULTCAPACITY_EMPTY_ELEMENTDATA := S_DEFAULTCAPACITY_EMPTY_ELEMENTDATA.ext E2
  have E_o3 := E_o3.ext E2
  have V_o3 := V_o3.ext E2
  have KP := KP.ext E2
  have F_b2_modCount : Fld Z h2 b2 "java/util/AbstractList" "modCount" "I" (.int (0 : Int32)) := D2 (Or.inl (hw _ (List.mem_of_getElem? (i := 59) rfl))) (ty := .int) (by decide)
  have F_b2_elementData : Fld Z h2 b2 "java/util/ArrayList" "elementData" "[Ljava/lang/Object;" .null := D2 (Or.inl (hw _ (List.mem_of_getElem? (i := 62) rfl))) (ty := (.array (.object "java/lang/Object"))) (by decide)
  refine C2.dup d6_8 rfl rfl ?_
  refine C2.callN rfl (hw _ (List.mem_of_getElem? (i := 42) rfl)) (hw _ (List.mem_of_getElem? (i := 43) rfl)) (hw _ (List.mem_of_getElem? (i := 41) rfl)) (hw _ (List.mem_of_getElem? (i := 44) rfl)) (by decide) (a := b2) (rm7 l Z a0 hw b2 de (.int (0 : Int32)) .null h2 n0 C2.size E_b2 F_b2_modCount F_b2_elementData g_b2 S_DEFAULTCAPACITY_EMPTY_ELEMENTDATA) (argsL := []) pd7 rfl 2 (by decide) (by decide) (by decide) (by decide) (rest := [(.ref b2), (.ref o0)]) rfl rfl (Nat.le_of_eq rfl) d6_9 rfl (fun v3 T3 h3 C3 qq3 => ?_)
  obtain ⟨rfl, K3, p3_0⟩ := qq3
  have S_DEFAULTCAPACITY_EMPTY_ELEMENTDATA := own_stak S_DEFAULTCAPACITY_EMPTY_ELEMENTDATA K3 (allS (own_plainE E_b2) (all0))
  have E_o0 := E_o0.keep K3
  have F_o0_operands := F_o0_operands.keep K3 (ninS ne_o0_b2 nin0)
  have F_o0_command := F_o0_command.keep K3 (ninS ne_o0_b2 nin0)
  have F_o0_usage := F_o0_usage.keep K3 (ninS ne_o0_b2 nin0)
  have F_o0_arguments := F_o0_arguments.keep K3 (ninS ne_o0_b2 nin0)
  have F_o0_maxOperands := F_o0_maxOperands.keep K3 (ninS ne_o0_b2 nin0)
  have F_o0_next := F_o0_next.keep K3 (ninS ne_o0_b2 nin0)
  have E_o3 := E_o3.keep K3
  have V_o3 := V_o3.keep K3 (ninS ne_o3_b2 nin0)
  have E_b2 := E_b2.keep K3
  have KP := KP.trans K3 (allS (Or.inr sz_b2) (all0))
  have E_b2 := p3_0
  show Go p e below F n0 (fun v h' => ∃ bc : Addr, v = none ∧ Keep h0 h' [o0] ∧ Exa Z h' o0 "com/example/bouncer/bouncer/cli/Arguments" ∧ Fld Z h' o0 "com/example/bouncer/bouncer/cli/Arguments" "arguments" "[Ljava/lang/String;" (.ref bc) ∧ Fld Z h' o0 "com/example/bouncer/bouncer/cli/Arguments" "next" "I" (.int (0 : Int32)) ∧ Exa Z h' bc "[Ljava/lang/String;" ∧ Arv Z h' bc k1 (.object "java/lang/String") n1 vs dv ∧ n0 ≤ bc) T3 (mkF m 12 #[.val (.ref o0), .val (.ref o1), .val (.ref o2), .val (.ref o3), .val (.int i4)] [(.ref b2), (.ref o0)])
  refine C3.putF (host := "") (Or.inl (hw _ (List.mem_of_getElem? (i := 63) rfl))) Via.refl F_o0_operands E_o0 (Or.inr ⟨(hw _ (List.mem_of_getElem? (i := 64) rfl)), rfl, rfl⟩) (hw _ (List.mem_of_getElem? (i := 29) rfl)) (ty := (.object "java/util/List")) (by decide) rfl rfl g_o0 d6_12 rfl (fun T4 h4 C4 W4 => ?_)
  have ne_o3_o0 : o3 ≠ o0 := (ne_exa E_o3 E_o0 (by decide))
  have E_o0 := E_o0.wr W4
  have F_o0_command := F_o0_command.other W4 (Or.inr (slot_ne (Or.inr (hw _ (List.mem_of_getElem? (i := 66) rfl))) (Or.inr (hw _ (List.mem_of_getElem? (i := 64) rfl))) (by decide) (t := (.object "java/lang/String")) (t' := (.object "java/util/List")) (by decide) (by decide)))
  have F_o0_usage := F_o0_usage.other W4 (Or.inr (slot_ne (Or.inr (hw _ (List.mem_of_getElem? (i := 68) rfl))) (Or.inr (hw _ (List.mem_of_getElem? (i := 64) rfl))) (by decide) (t := (.object "java/lang/String")) (t' := (.object "java/util/List")) (by decide) (by decide)))
  have F_o0_arguments := F_o0_arguments.other W4 (Or.inr (slot_ne (Or.inr (hw _ (List.mem_of_getElem? (i := 79) rfl))) (Or.inr (hw _ (List.mem_of_getElem? (i := 64) rfl))) (by decide) (t := (.array (.object "java/lang/String"))) (t' := (.object "java/util/List")) (by decide) (by decide)))
  have F_o0_maxOperands := F_o0_maxOperands.other W4 (Or.inr (slot_ne (Or.inr (hw _ (List.mem_of_getElem? (i := 81) rfl))) (Or.inr (hw _ (List.mem_of_getElem? (i := 64) rfl))) (by decide) (t := .int) (t' := (.object "java/util/List")) (by decide) (by decide)))
  have F_o0_next := F_o0_next.other W4 (Or.inr (slot_ne (Or.inl (hw _ (List.mem_of_getElem? (i := 88) rfl))) (Or.inr (hw _ (List.mem_of_getElem? (i := 64) rfl))) (by decide) (t := .int) (t' := (.object "java/util/List")) (by decide) (by decide)))
  have S_DEFAULTCAPACITY_EMPTY_ELEMENTDATA := S_DEFAULTCAPACITY_EMPTY_ELEMENTDATA.wr W4
  have E_o3 := E_o3.wr W4
  have V_o3 := V_o3.other W4 ne_o3_o0
  have E_b2 := E_b2.wr W4
  have KP := KP.wr W4 (Or.inl (by simp))
  have F_o0_operands := F_o0_operands.same W4
  refine C4.aloadN d6_15 rfl rfl rfl ?_
  refine C4.aloadN d6_16 rfl rfl rfl ?_
  refine C4.putF (host := "") (Or.inl (hw _ (List.mem_of_getElem? (i := 65) rfl))) Via.refl F_o0_command E_o0 (Or.inr ⟨(hw _ (List.mem_of_getElem? (i := 66) rfl)), rfl, rfl⟩) (hw _ (List.mem_of_getElem? (i := 29) rfl)) (ty := (.object "java/lang/String")) (by decide) rfl rfl g_o0 d6_17 rfl (fun T5 h5 C5 W5 => ?_)
  have E_o0 := E_o0.wr W5
  have F_o0_operands := F_o0_operands.other W5 (Or.inr (slot_ne (Or.inr (hw _ (List.mem_of_getElem? (i := 64) rfl))) (Or.inr (hw _ (List.mem_of_getElem? (i := 66) rfl))) (by decide) (t := (.object "java/util/List")) (t' := (.object "java/lang/String")) (by decide) (by decide)))
  have F_o0_usage := F_o0_usage.other W5 (Or.inr (slot_ne (Or.inr (hw _ (List.mem_of_getElem? (i := 68) rfl))) (Or.inr (hw _ (List.mem_of_getElem? (i := 66) rfl))) (by decide) (t := (.object "java/lang/String")) (t' := (.object "java/lang/String")) (by decide) (by decide)))
  have F_o0_arguments := F_o0_arguments.other W5 (Or.inr (slot_ne (Or.inr (hw _ (List.mem_of_getElem? (i := 79) rfl))) (Or.inr (hw _ (List.mem_of_getElem? (i := 66) rfl))) (by decide) (t := (.array (.object "java/lang/String"))) (t' := (.object "java/lang/String")) (by decide) (by decide)))
  have F_o0_maxOperands := F_o0_maxOperands.other W5 (Or.inr (slot_ne (Or.inr (hw _ (List.mem_of_getElem? (i := 81) rfl))) (Or.inr (hw _ (List.mem_of_getElem? (i := 66) rfl))) (by decide) (t := .int) (t' := (.object "java/lang/String")) (by decide) (by decide)))
  have F_o0_next := F_o0_next.other W5 (Or.inr (slot_ne (Or.inl (hw _ (List.mem_of_getElem? (i := 88) rfl))) (Or.inr (hw _ (List.mem_of_getElem? (i := 66) rfl))) (by decide) (t := .int) (t' := (.object "java/lang/String")) (by decide) (by decide)))
  have S_DEFAULTCAPACITY_EMPTY_ELEMENTDATA := S_DEFAULTCAPACITY_EMPTY_ELEMENTDATA.wr W5
  have E_o3 := E_o3.wr W5
  have V_o3 := V_o3.other W5 ne_o3_o0
  have E_b2 := E_b2.wr W5
  have KP := KP.wr W5 (Or.inl (by simp))
  have F_o0_command := F_o0_command.same W5
  refine C5.aloadN d6_20 rfl rfl rfl ?_
  refine C5.aloadN d6_21 rfl rfl rfl ?_
  refine C5.putF (host := "") (Or.inl (hw _ (List.mem_of_getElem? (i := 67) rfl))) Via.refl F_o0_usage E_o0 (Or.inr ⟨(hw _ (List.mem_of_getElem? (i := 68) rfl)), rfl, rfl⟩) (hw _ (List.mem_of_getElem? (i := 29) rfl)) (ty := (.object "java/lang/String")) (by decide) rfl rfl g_o0 d6_22 rfl (fun T6 h6 C6 W6 => ?_)
  have E_o0 := E_o0.wr W6
  have F_o0_operands := F_o0_operands.other W6 (Or.inr (slot_ne (Or.inr (hw _ (List.mem_of_getElem? (i := 64) rfl))) (Or.inr (hw _ (List.mem_of_getElem? (i := 68) rfl))) (by decide) (t := (.object "java/util/List")) (t' := (.object "java/lang/String")) (by decide) (by decide)))
  have F_o0_command := F_o0_command.other W6 (Or.inr (slot_ne (Or.inr (hw _ (List.mem_of_getElem? (i := 66) rfl))) (Or.inr (hw _ (List.mem_of_getElem? (i := 68) rfl))) (by decide) (t := (.object "java/lang/String")) (t' := (.object "java/lang/String")) (by decide) (by decide)))
  have F_o0_arguments := F_o0_arguments.other W6 (Or.inr (slot_ne (Or.inr (hw _ (List.mem_of_getElem? (i := 79) rfl))) (Or.inr (hw _ (List.mem_of_getElem? (i := 68) rfl))) (by decide) (t := (.array (.object "java/lang/String"))) (t' := (.object "java/lang/String")) (by decide) (by decide)))
  have F_o0_maxOperands := F_o0_maxOperands.other W6 (Or.inr (slot_ne (Or.inr (hw _ (List.mem_of_getElem? (i := 81) rfl))) (Or.inr (hw _ (List.mem_of_getElem? (i := 68) rfl))) (by decide) (t := .int) (t' := (.object "java/lang/String")) (by decide) (by decide)))
  have F_o0_next := F_o0_next.other W6 (Or.inr (slot_ne (Or.inl (hw _ (List.mem_of_getElem? (i := 88) rfl))) (Or.inr (hw _ (List.mem_of_getElem? (i := 68) rfl))) (by decide) (t := .int) (t' := (.object "java/lang/String")) (by decide) (by decide)))
  have S_DEFAULTCAPACITY_EMPTY_ELEMENTDATA := S_DEFAULTCAPACITY_EMPTY_ELEMENTDATA.wr W6
  have E_o3 := E_o3.wr W6
  have V_o3 := V_o3.other W6 ne_o3_o0
  have E_b2 := E_b2.wr W6
  have KP := KP.wr W6 (Or.inl (by simp))
  have F_o0_usage := F_o0_usage.same W6
  refine C6.aloadN d6_25 rfl rfl rfl ?_
  refine C6.aloadN d6_26 rfl rfl rfl ?_
  refine C6.clonearr (hw _ (List.mem_of_getElem? (i := 69) rfl)) (hw _ (List.mem_of_getElem? (i := 70) rfl)) (hw _ (List.mem_of_getElem? (i := 74) rfl)) (hw _ (List.mem_of_getElem? (i := 72) rfl)) (hw _ (List.mem_of_getElem? (i := 73) rfl)) (hw _ (List.mem_of_getElem? (i := 75) rfl)) V_o3 E_o3 rfl (by decide) 1 (Nat.le_of_eq rfl) (by decide) 3 hc3 (by decide) (by decide) d6_27 rfl (fun T7 h7 b7 C7 e7 g_b7 E7 V_b7 E_b7 => ?_)
  have ne_o0_b7 : o0 ≠ b7 := Nat.ne_of_lt (Nat.lt_of_lt_of_eq E_o0.lt e7.symm)
  have ne_o3_b7 : o3 ≠ b7 := Nat.ne_of_lt (Nat.lt_of_lt_of_eq E_o3.lt e7.symm)
  have ne_b2_b7 : b2 ≠ b7 := Nat.ne_of_lt (Nat.lt_of_lt_of_eq E_b2.lt e7.symm)
  have sz_b7 : h0.size ≤ b7 := Nat.le_trans KP.1 (Nat.le_of_eq e7.symm)
  have E_o0 := E_o0.ext E7
  have F_o0_operands := F_o0_operands.ext E7
  have F_o0_command := F_o0_command.ext E7
  have F_o0_usage := F_o0_usage.ext E7
  have F_o0_arguments := F_o0_arguments.ext E7
  have F_o0_maxOperands := F_o0_maxOperands.ext E7
  have F_o0_next := F_o0_next.ext E7
  have S_DEFAULTCAPACITY_EMPTY_ELEMENTDATA := S_DEFAULTCAPACITY_EMPTY_ELEMENTDATA.ext E7
  have E_o3 := E_o3.ext E7
  have V_o3 := V_o3.ext E7
  have E_b2 := E_b2.ext E7
  have KP := KP.ext E7
  refine C7.castY (hw _ (List.mem_of_getElem? (i := 76) rfl)) (Ins.self E_b7) d6_30 rfl (fun T8 C8 => ?_)
  refine C8.putF (host := "") (Or.inl (hw _ (List.mem_of_getElem? (i := 78) rfl))) Via.refl F_o0_arguments E_o0 (Or.inr ⟨(hw _ (List.mem_of_getElem? (i := 79) rfl)), rfl, rfl⟩) (hw _ (List.mem_of_getElem? (i := 29) rfl)) (ty := (.array (.object "java/lang/String"))) (by decide) rfl rfl g_o0 d6_33 rfl (fun T9 h9 C9 W9 => ?_)
  have E_o0 := E_o0.wr W9
  have F_o0_operands := F_o0_operands.other W9 (Or.inr (slot_ne (Or.inr (hw _ (List.mem_of_getElem? (i := 64) rfl))) (Or.inr (hw _ (List.mem_of_getElem? (i := 79) rfl))) (by decide) (t := (.object "java/util/List")) (t' := (.array (.object "java/lang/String"))) (by decide) (by decide)))
  have F_o0_command := F_o0_command.other W9 (Or.inr (slot_ne (Or.inr (hw _ (List.mem_of_getElem? (i := 66) rfl))) (Or.inr (hw _ (List.mem_of_getElem? (i := 79) rfl))) (by decide) (t := (.object "java/lang/String")) (t' := (.array (.object "java/lang/String"))) (by decide) (by decide)))
  have F_o0_usage := F_o0_usage.other W9 (Or.inr (slot_ne (Or.inr (hw _ (List.mem_of_getElem? (i := 68) rfl))) (Or.inr (hw _ (List.mem_of_getElem? (i := 79) rfl))) (by decide) (t := (.object "java/lang/String")) (t' := (.array (.object "java/lang/String"))) (by decide) (by decide)))
  have F_o0_maxOperands := F_o0_maxOperands.other W9 (Or.inr (slot_ne (Or.inr (hw _ (List.mem_of_getElem? (i := 81) rfl))) (Or.inr (hw _ (List.mem_of_getElem? (i := 79) rfl))) (by decide) (t := .int) (t' := (.array (.object "java/lang/String"))) (by decide) (by decide)))
  have F_o0_next := F_o0_next.other W9 (Or.inr (slot_ne (Or.inl (hw _ (List.mem_of_getElem? (i := 88) rfl))) (Or.inr (hw _ (List.mem_of_getElem? (i := 79) rfl))) (by decide) (t := .int) (t' := (.array (.object "java/lang/String"))) (by decide) (by decide)))
  have S_DEFAULTCAPACITY_EMPTY_ELEMENTDATA := S_DEFAULTCAPACITY_EMPTY_ELEMENTDATA.wr W9
  have E_o3 := E_o3.wr W9
  have V_o3 := V_o3.other W9 ne_o3_o0
  have E_b2 := E_b2.wr W9
  have V_b7 := V_b7.other W9 (Ne.symm ne_o0_b7)
  have E_b7 := E_b7.wr W9
  have KP := KP.wr W9 (Or.inl (by simp))
  have F_o0_arguments := F_o0_arguments.same W9
  refine C9.aloadN d6_36 rfl rfl rfl ?_
  refine C9.iload d6_37 rfl rfl ?_
  refine C9.putF (host := "") (Or.inl (hw _ (List.mem_of_getElem? (i := 80) rfl))) Via.refl F_o0_maxOperands E_o0 (Or.inr ⟨(hw _ (List.mem_of_getElem? (i := 81) rfl)), rfl, rfl⟩) (hw _ (List.mem_of_getElem? (i := 29) rfl)) (ty := .int) (by decide) rfl rfl g_o0 d6_39 rfl (fun T10 h10 C10 W10 => ?_)
  have E_o0 := E_o0.wr W10
  have F_o0_operands := F_o0_operands.other W10 (Or.inr (slot_ne (Or.inr (hw _ (List.mem_of_getElem? (i := 64) rfl))) (Or.inr (hw _ (List.mem_of_getElem? (i := 81) rfl))) (by decide) (t := (.object "java/util/List")) (t' := .int) (by decide) (by decide)))
  have F_o0_command := F_o0_command.other W10 (Or.inr (slot_ne (Or.inr (hw _ (List.mem_of_getElem? (i := 66) rfl))) (Or.inr (hw _ (List.mem_of_getElem? (i := 81) rfl))) (by decide) (t := (.object "java/lang/String")) (t' := .int) (by decide) (by decide)))
  have F_o0_usage := F_o0_usage.other W10 (Or.inr (slot_ne (Or.inr (hw _ (List.mem_of_getElem? (i := 68) rfl))) (Or.inr (hw _ (List.mem_of_getElem? (i := 81) rfl))) (by decide) (t := (.object "java/lang/String")) (t' := .int) (by decide) (by decide)))
  have F_o0_arguments := F_o0_arguments.other W10 (Or.inr (slot_ne (Or.inr (hw _ (List.mem_of_getElem? (i := 79) rfl))) (Or.inr (hw _ (List.mem_of_getElem? (i := 81) rfl))) (by decide) (t := (.array (.object "java/lang/String"))) (t' := .int) (by decide) (by decide)))
  have F_o0_next := F_o0_next.other W10 (Or.inr (slot_ne (Or.inl (hw _ (List.mem_of_getElem? (i := 88) rfl))) (Or.inr (hw _ (List.mem_of_getElem? (i := 81) rfl))) (by decide) (t := .int) (t' := .int) (by decide) (by decide)))
  have S_DEFAULTCAPACITY_EMPTY_ELEMENTDATA := S_DEFAULTCAPACITY_EMPTY_ELEMENTDATA.wr W10
  have E_o3 := E_o3.wr W10
  have V_o3 := V_o3.other W10 ne_o3_o0
  have E_b2 := E_b2.wr W10
  have V_b7 := V_b7.other W10 (Ne.symm ne_o0_b7)
  have E_b7 := E_b7.wr W10
  have KP := KP.wr W10 (Or.inl (by simp))
  have F_o0_maxOperands := F_o0_maxOperands.same W10
  exact C10.retV d6_42 rfl (by decide) (by decide) ⟨b7, rfl, KP, E_o0, F_o0_arguments, F_o0_next, E_b7, V_b7, g_b7⟩
def f10 (y0 : Int32) (n1 : Int32) : Int32 := if y0 < n1 then (1 : Int32) else ((0 : Int32))
theorem pn10 : plainName "com/example/bouncer/bouncer/cli/Arguments" = true := by first | (simp [plainName, overriddenIn]; done) | decide +kernel
theorem pd10 : parseMethodDescriptor "()Z" = some ⟨[], some .boolean⟩ := by decide +kernel
theorem ef10 (m : MethodId) (o0 : Addr) : entryFrame m #[(.ref o0)] 1 = mkF m 0 #[.val (.ref o0)] [] := by first | (simp [entryFrame, mkF, argsToLocals, Value.category]; done) | rfl
theorem d10_0 : decode prog_26_method_2_code 0 = .ok (.aload_n 0, 1) := by decide +kernel
theorem d10_1 : decode prog_26_method_2_code 1 = .ok (.getfield 36, 3) := by decide +kernel
theorem d10_4 : decode prog_26_method_2_code 4 = .ok (.aload_n 0, 1) := by decide +kernel
theorem d10_5 : decode prog_26_method_2_code 5 = .ok (.getfield 29, 3) := by decide +kernel
theorem d10_8 : decode prog_26_method_2_code 8 = .ok (.arraylength, 1) := by decide +kernel
theorem d10_9 : decode prog_26_method_2_code 9 = .ok (.if_icmp .ge 7, 3) := by decide +kernel
theorem d10_12 : decode prog_26_method_2_code 12 = .ok (.iconst 1, 1) := by decide +kernel
theorem d10_13 : decode prog_26_method_2_code 13 = .ok (.goto 4, 3) := by decide +kernel
theorem d10_16 : decode prog_26_method_2_code 16 = .ok (.iconst 0, 1) := by decide +kernel
theorem d10_17 : decode prog_26_method_2_code 17 = .ok (.ireturn, 1) := by decide +kernel
set_option maxRecDepth 65536 in
set_option maxHeartbeats 40000000 in
theorem rm10 (l : Launch) (Z : State) (a0 : Array Value) (hw : ∀ d ∈ tables_1, d.before a0 Z = true) (o0 : Addr) (a1 : Addr) (y0 : Int32) (k1 : ClassId) (n1 : Int32) (vs : List Value) (dv : Value) (h0 : Heap) (n0 : Nat) (Z0 : n0 ≤ h0.size) (F_o0_arguments : Fld Z h0 o0 "com/example/bouncer/bouncer/cli/Arguments" "arguments" "[Ljava/lang/String;" (.ref a1)) (F_o0_next : Fld Z h0 o0 "com/example/bouncer/bouncer/cli/Arguments" "next" "I" (.int y0)) (V_a1 : Arv Z h0 a1 k1 (.object "java/lang/String") n1 vs dv) :
    Ctr l Z (⟨"com/example/bouncer/bouncer/cli/Arguments", "hasNext", "()Z"⟩ : MethodName) prog_26_method_2_code 1 (some .boolean) ({ frames := 0, cells := 0, slots := 0, locals := 0 } : Room) #[(.ref o0)] h0 n0 (fun v h' => v = some (.int (f10 y0 n1)) ∧ h' = h0) := by
  refine Ctr.body (L := #[.val (.ref o0)]) (plainFor_of_name pn10) Z0 (fun m => ef10 m o0) ?_
  intro p e F m below meth c T0 C0
  refine C0.aloadN d10_0 rfl rfl rfl ?_
  refine C0.getF (host := "") (Or.inl (hw _ (List.mem_of_getElem? (i := 87) rfl))) Via.refl F_o0_next d10_1 rfl (fun T1 C1 => ?_)
  refine C1.aloadN d10_4 rfl rfl rfl ?_
  refine C1.getF (host := "") (Or.inl (hw _ (List.mem_of_getElem? (i := 78) rfl))) Via.refl F_o0_arguments d10_5 rfl (fun T2 C2 => ?_)
  refine C2.arrlen V_a1 d10_8 rfl ?_
  refine C2.icmp_ge d10_9 (by decide) (by decide : _ = 16) rfl (fun c9 => ?_) (fun c9 => ?_)
  · refine C2.iconst (0 : Int32) d10_16 rfl rfl ?_
    exact C2.retN (t := .boolean) d10_17 rfl (by simp) (by decide) (by decide) (w := (0 : Int32)) rfl ⟨by rw [f10, if_neg c9], rfl⟩
  · refine C2.iconst (1 : Int32) d10_12 rfl rfl ?_
    refine C2.goto d10_13 (by decide) (by decide : _ = 17) ?_
    exact C2.retN (t := .boolean) d10_17 rfl (by simp) (by decide) (by decide) (w := (1 : Int32)) rfl ⟨by rw [f10, if_pos c9], rfl⟩
theorem pn11 : plainName "com/example/bouncer/bouncer/cli/Arguments" = true := by first | (simp [plainName, overriddenIn]; done) | decide +kernel
theorem pd11 : parseMethodDescriptor "()Ljava/lang/String;" = some ⟨[], some (.object "java/lang/String")⟩ := by decide +kernel
theorem ef11 (m : MethodId) (o0 : Addr) : entryFrame m #[(.ref o0)] 1 = mkF m 0 #[.val (.ref o0)] [] := by first | (simp [entryFrame, mkF, argsToLocals, Value.category]; done) | rfl
theorem d11_0 : decode prog_26_method_3_code 0 = .ok (.aload_n 0, 1) := by decide +kernel
theorem d11_1 : decode prog_26_method_3_code 1 = .ok (.getfield 29, 3) := by decide +kernel
theorem d11_4 : decode prog_26_method_3_code 4 = .ok (.aload_n 0, 1) := by decide +kernel
theorem d11_5 : decode prog_26_method_3_code 5 = .ok (.dup, 1) := by decide +kernel
theorem d11_6 : decode prog_26_method_3_code 6 = .ok (.getfield 36, 3) := by decide +kernel
theorem d11_9 : decode prog_26_method_3_code 9 = .ok (.dup_x1, 1) := by decide +kernel
theorem d11_10 : decode prog_26_method_3_code 10 = .ok (.iconst 1, 1) := by decide +kernel
theorem d11_11 : decode prog_26_method_3_code 11 = .ok (.iadd, 1) := by decide +kernel
theorem d11_12 : decode prog_26_method_3_code 12 = .ok (.putfield 36, 3) := by decide +kernel
theorem d11_15 : decode prog_26_method_3_code 15 = .ok (.aaload, 1) := by decide +kernel
theorem d11_16 : decode prog_26_method_3_code 16 = .ok (.areturn, 1) := by decide +kernel
set_option maxRecDepth 65536 in
set_option maxHeartbeats 40000000 in
theorem rm11 (l : Launch) (Z : State) (a0 : Array Value) (hw : ∀ d ∈ tables_1, d.before a0 Z = true) (o0 : Addr) (a1 : Addr) (y0 : Int32) (k1 : ClassId) (n1 : Int32) (vs : List Value) (dv : Value) (w1 : Addr) (h0 : Heap) (n0 : Nat) (Z0 : n0 ≤ h0.size) (E_o0 : Exa Z h0 o0 "com/example/bouncer/bouncer/cli/Arguments") (F_o0_arguments : Fld Z h0 o0 "com/example/bouncer/bouncer/cli/Arguments" "arguments" "[Ljava/lang/String;" (.ref a1)) (F_o0_next : Fld Z h0 o0 "com/example/bouncer/bouncer/cli/Arguments" "next" "I" (.int y0)) (V_a1 : Arv Z h0 a1 k1 (.object "java/lang/String") n1 vs dv) (E_a1 : Exa Z h0 a1 "[Ljava/lang/String;") (g_o0 : n0 ≤ o0) (hin : ¬ y0 < (0 : Int32) ∧ y0 < n1) (hv : vs.getD (y0).toNatClampNeg dv = .ref w1) :
    Ctr l Z (⟨"com/example/bouncer/bouncer/cli/Arguments", "next", "()Ljava/lang/String;"⟩ : MethodName) prog_26_method_3_code 1 (some (.object "java/lang/String")) ({ frames := 0, cells := 0, slots := 0, locals := 0 } : Room) #[(.ref o0)] h0 n0 (fun v h' => v = some (.ref w1) ∧ Keep h0 h' [o0] ∧ Exa Z h' o0 "com/example/bouncer/bouncer/cli/Arguments" ∧ Fld Z h' o0 "com/example/bouncer/bouncer/cli/Arguments" "arguments" "[Ljava/lang/String;" (.ref a1) ∧ Fld Z h' o0 "com/example/bouncer/bouncer/cli/Arguments" "next" "I" (.int (y0 + (1 : Int32)))) := by
  refine Ctr.body (L := #[.val (.ref o0)]) (plainFor_of_name pn11) Z0 (fun m => ef11 m o0) ?_
  intro p e F m below meth c T0 C0
  have KP : Keep h0 h0 [o0] := Keep.refl h0 _
  refine C0.aloadN d11_0 rfl rfl rfl ?_
  refine C0.getF (host := "") (Or.inl (hw _ (List.mem_of_getElem? (i := 78) rfl))) Via.refl F_o0_arguments d11_1 rfl (fun T1 C1 => ?_)
  refine C1.aloadN d11_4 rfl rfl rfl ?_
  refine C1.dup d11_5 rfl rfl ?_
  refine C1.getF (host := "") (Or.inl (hw _ (List.mem_of_getElem? (i := 87) rfl))) Via.refl F_o0_next d11_6 rfl (fun T2 C2 => ?_)
  refine C2.dupX1 d11_9 rfl rfl rfl ?_
  refine C2.iconst (1 : Int32) d11_10 rfl rfl ?_
  refine C2.iadd d11_11 rfl ?_
  refine C2.putF (host := "") (Or.inl (hw _ (List.mem_of_getElem? (i := 87) rfl))) Via.refl F_o0_next E_o0 (Or.inl (hw _ (List.mem_of_getElem? (i := 88) rfl))) (hw _ (List.mem_of_getElem? (i := 29) rfl)) (ty := .int) (by decide) rfl rfl g_o0 d11_12 rfl (fun T3 h3 C3 W3 => ?_)
  have ne_a1_o0 : a1 ≠ o0 := (ne_exa E_a1 E_o0 (by decide))
  have E_o0 := E_o0.wr W3
  have F_o0_arguments := F_o0_arguments.other W3 (Or.inr (slot_ne (Or.inr (hw _ (List.mem_of_getElem? (i := 79) rfl))) (Or.inl (hw _ (List.mem_of_getElem? (i := 88) rfl))) (by decide) (t := (.array (.object "java/lang/String"))) (t' := .int) (by decide) (by decide)))
  have V_a1 := V_a1.other W3 ne_a1_o0
  have E_a1 := E_a1.wr W3
  have KP := KP.wr W3 (Or.inl (by simp))
  have F_o0_next := F_o0_next.same W3
  refine C3.aaload (v := (.ref w1)) V_a1 hin hv d11_15 rfl ?_
  exact C3.retA d11_16 rfl rfl rfl (by decide) (by decide) ⟨rfl, KP, E_o0, F_o0_arguments, F_o0_next⟩
theorem pn12 : plainName "java/lang/String" = true := by first | (simp [plainName, overriddenIn]; done) | decide +kernel
theorem pd12 : parseMethodDescriptor "(Ljava/lang/Object;)Z" = some ⟨[(.object "java/lang/Object")], some .boolean⟩ := by decide +kernel
theorem ef12 (m : MethodId) (o0 : Addr) (o1 : Addr) : entryFrame m #[(.ref o0), (.ref o1)] 3 = mkF m 0 #[.val (.ref o0), .val (.ref o1), .unset] [] := by first | (simp [entryFrame, mkF, argsToLocals, Value.category]; done) | rfl
theorem d12_0 : decode jdk_42_method_66_code 0 = .ok (.aload_n 0, 1) := by decide +kernel
theorem d12_1 : decode jdk_42_method_66_code 1 = .ok (.aload_n 1, 1) := by decide +kernel
theorem d12_2 : decode jdk_42_method_66_code 2 = .ok (.if_acmp .ne 5, 3) := by decide +kernel
theorem d12_5 : decode jdk_42_method_66_code 5 = .ok (.iconst 1, 1) := by decide +kernel
theorem d12_6 : decode jdk_42_method_66_code 6 = .ok (.ireturn, 1) := by decide +kernel
set_option maxRecDepth 65536 in
set_option maxHeartbeats 40000000 in
theorem rm12 (l : Launch) (Z : State) (a0 : Array Value) (hw : ∀ d ∈ tables_1, d.before a0 Z = true) (o0 : Addr) (o1 : Addr) (h0 : Heap) (n0 : Nat) (Z0 : n0 ≤ h0.size) (heq : o0 = o1) :
    Ctr l Z (⟨"java/lang/String", "equals", "(Ljava/lang/Object;)Z"⟩ : MethodName) jdk_42_method_66_code 3 (some .boolean) ({ frames := 0, cells := 0, slots := 0, locals := 0 } : Room) #[(.ref o0), (.ref o1)] h0 n0 (fun v h' => v = some (.int (1 : Int32)) ∧ h' = h0) := by
  refine Ctr.body (L := #[.val (.ref o0), .val (.ref o1), .unset]) (plainFor_of_name pn12) Z0 (fun m => ef12 m o0 o1) ?_
  intro p e F m below meth c T0 C0
  refine C0.aloadN d12_0 rfl rfl rfl ?_
  refine C0.aloadN d12_1 rfl rfl rfl ?_
  refine C0.acmp_ne d12_2 (by decide) (by decide : _ = 7) rfl (fun q => absurd heq q) (fun _ => ?_)
  refine C0.iconst (1 : Int32) d12_5 rfl rfl ?_
  exact C0.retN (t := .boolean) d12_6 rfl (by simp) (by decide) (by decide) (w := (1 : Int32)) rfl ⟨rfl, rfl⟩
set_option maxRecDepth 65536 in
set_option maxHeartbeats 40000000 in
theorem own_pre0 (i0 : Int32) (i1 : Int32) (i2 : Int32) (i3 : Int32) (i4 : Int32) (cs : Int32) (de : Addr) (hcs : ¬ cs = (0 : Int32)) : ¬ (255 : Int32) < ((i1 &&& (255 : Int32)).toUInt32.toUInt16.toUInt32.toInt32) := by
  have ca_0 := c_i2c (i1 &&& (255 : Int32))
  have ca_1 := c_mask i1 (255 : Int32) 8 (by decide) (by decide)
  have bl_0 := (i1).le_toInt; have bu_0 := (i1).toInt_lt
  have bl_1 := (cs).le_toInt; have bu_1 := (cs).toInt_lt
  try simp only [own_eqite, own_iteeq] at *
  try simp only [ne_eq, and_true, true_and, or_true, true_or, and_false, false_and, or_false, false_or, not_true_eq_false, not_false_eq_true, Int32.lt_iff_toInt_lt, Int64.lt_iff_toInt_lt, ← Int32.toInt_inj, ← Int64.toInt_inj, Int32.reduceToInt, Int64.reduceToInt] at *
  omega
set_option maxRecDepth 65536 in
set_option maxHeartbeats 40000000 in
theorem own_pre1 (i0 : Int32) (i1 : Int32) (i2 : Int32) (i3 : Int32) (i4 : Int32) (cs : Int32) (de : Addr) (hcs : ¬ cs = (0 : Int32)) : ¬ (255 : Int32) < ((i2 &&& (255 : Int32)).toUInt32.toUInt16.toUInt32.toInt32) := by
  have ca_0 := c_i2c (i2 &&& (255 : Int32))
  have ca_1 := c_mask i2 (255 : Int32) 8 (by decide) (by decide)
  have bl_0 := (i2).le_toInt; have bu_0 := (i2).toInt_lt
  have bl_1 := (cs).le_toInt; have bu_1 := (cs).toInt_lt
  try simp only [own_eqite, own_iteeq] at *
  try simp only [ne_eq, and_true, true_and, or_true, true_or, and_false, false_and, or_false, false_or, not_true_eq_false, not_false_eq_true, Int32.lt_iff_toInt_lt, Int64.lt_iff_toInt_lt, ← Int32.toInt_inj, ← Int64.toInt_inj, Int32.reduceToInt, Int64.reduceToInt] at *
  omega
set_option maxRecDepth 65536 in
set_option maxHeartbeats 40000000 in
theorem own_pre2 (i0 : Int32) (i1 : Int32) (i2 : Int32) (i3 : Int32) (i4 : Int32) (cs : Int32) (de : Addr) (hcs : ¬ cs = (0 : Int32)) : ¬ (255 : Int32) < ((i3 &&& (255 : Int32)).toUInt32.toUInt16.toUInt32.toInt32) := by
  have ca_0 := c_i2c (i3 &&& (255 : Int32))
  have ca_1 := c_mask i3 (255 : Int32) 8 (by decide) (by decide)
  have bl_0 := (i3).le_toInt; have bu_0 := (i3).toInt_lt
  have bl_1 := (cs).le_toInt; have bu_1 := (cs).toInt_lt
  try simp only [own_eqite, own_iteeq] at *
  try simp only [ne_eq, and_true, true_and, or_true, true_or, and_false, false_and, or_false, false_or, not_true_eq_false, not_false_eq_true, Int32.lt_iff_toInt_lt, Int64.lt_iff_toInt_lt, ← Int32.toInt_inj, ← Int64.toInt_inj, Int32.reduceToInt, Int64.reduceToInt] at *
  omega
theorem pn0 : plainName "com/example/bouncer/bouncer/cli/ArgumentsNextPinLaw" = true := by first | (simp [plainName, overriddenIn]; done) | decide +kernel
theorem ef0 (m : MethodId) (i0 : Int32) (i1 : Int32) (i2 : Int32) (i3 : Int32) (i4 : Int32) : entryFrame m #[(.int i0), (.int i1), (.int i2), (.int i3), (.int i4)] maxLocals = mkF m 0 #[.val (.int i0), .val (.int i1), .val (.int i2), .val (.int i3), .val (.int i4), .unset, .unset, .unset, .unset, .unset, .unset, .unset] [] := by first | (simp [entryFrame, mkF, argsToLocals, Value.category, maxLocals]; done) | rfl
set_option maxRecDepth 65536 in
set_option maxHeartbeats 40000000 in
theorem rm0 (l : Launch) (Z : State) (a0 : Array Value) (hw : ∀ d ∈ tables_1, d.before a0 Z = true) (i0 : Int32) (i1 : Int32) (i2 : Int32) (i3 : Int32) (i4 : Int32) (cs : Int32) (de : Addr) (h0 : Heap) (n0 : Nat) (Z0 : n0 ≤ h0.size) (S_COMPACT_STRINGS : Sta Z h0 "java/lang/String" "COMPACT_STRINGS" "Z" (.int cs)) (hcs : ¬ cs = (0 : Int32)) (S_DEFAULTCAPACITY_EMPTY_ELEMENTDATA : Sta Z h0 "java/util/ArrayList" "DEFAULTCAPACITY_EMPTY_ELEMENTDATA" "[Ljava/lang/Object;" (.ref de)) :
    CtrW l Z x code maxLocals ret room_1 #[(.int i0), (.int i1), (.int i2), (.int i3), (.int i4)] h0 n0 (fun v _ => v = some (.int (1 : Int32))) := by
  refine CtrW.body (L := #[.val (.int i0), .val (.int i1), .val (.int i2), .val (.int i3), .val (.int i4), .unset, .unset, .unset, .unset, .unset, .unset, .unset]) (plainFor_of_name pn0) Z0 (fun m => ef0 m i0 i1 i2 i3 i4) ?_
  intro p e F m below meth c T0 C0
  refine C0.iloadN at_0 rfl rfl ?_
  refine C0.iconst (3 : Int32) at_1 rfl rfl ?_
  refine C0.iand at_2 rfl ?_
  refine C0.istoreV (fun v => #[.val (.int i0), .val (.int i1), .val (.int i2), .val (.int i3), .val (.int i4), .val (.int v), .unset, .unset, .unset, .unset, .unset, .unset]) at_3 rfl (fun _ => rfl) (fun v1 hv1 => ?_)
  rcases own_c4 hv1 with e | e | e | e
  · subst e
    refine C0.iloadN at_5 rfl rfl ?_
    refine C0.sipush (255 : Int32) at_6 rfl rfl ?_
    refine C0.iand at_9 rfl ?_
    refine C0.i2c at_10 rfl ?_
    refine C0.callS (hw _ (List.mem_of_getElem? (i := 0) rfl)) (hw _ (List.mem_of_getElem? (i := 1) rfl)) (hw _ (List.mem_of_getElem? (i := 2) rfl)) (hw _ (List.mem_of_getElem? (i := 3) rfl)) (by decide) (rm1 l Z a0 hw ((i1 &&& (255 : Int32)).toUInt32.toUInt16.toUInt32.toInt32) cs h0 n0 C0.size S_COMPACT_STRINGS hcs (own_pre0 i0 i1 i2 i3 i4 cs de hcs)) (argsL := [(.int ((i1 &&& (255 : Int32)).toUInt32.toUInt16.toUInt32.toInt32))]) pd1 rfl 0 (by decide) (by decide) (by decide) (by decide) (rest := []) rfl rfl (Nat.le_of_eq rfl) at_11 rfl (fun v2 T2 h2 C2 qq2 => ?_)
    obtain ⟨bs2, rfl, K2, p2_0, p2_1⟩ := qq2
    have K2 := ext_keep K2
    have S_COMPACT_STRINGS := S_COMPACT_STRINGS.ext K2
    have S_DEFAULTCAPACITY_EMPTY_ELEMENTDATA := S_DEFAULTCAPACITY_EMPTY_ELEMENTDATA.ext K2
    have E_bs2 := p2_0
    have g_bs2 := p2_1
    show Go p e below F n0 (fun v _ => v = some (.int (1 : Int32))) T2 (mkF m 14 #[.val (.int i0), .val (.int i1), .val (.int i2), .val (.int i3), .val (.int i4), .val (.int (0 : Int32)), .unset, .unset, .unset, .unset, .unset, .unset] [(.ref bs2)])
    refine C2.astore at_14 rfl rfl (L' := #[.val (.int i0), .val (.int i1), .val (.int i2), .val (.int i3), .val (.int i4), .val (.int (0 : Int32)), .val (.ref bs2), .unset, .unset, .unset, .unset, .unset]) rfl ?_
    refine C2.iloadN at_16 rfl rfl ?_
    refine C2.sipush (255 : Int32) at_17 rfl rfl ?_
    refine C2.iand at_20 rfl ?_
    refine C2.i2c at_21 rfl ?_
    refine C2.callS (hw _ (List.mem_of_getElem? (i := 0) rfl)) (hw _ (List.mem_of_getElem? (i := 1) rfl)) (hw _ (List.mem_of_getElem? (i := 2) rfl)) (hw _ (List.mem_of_getElem? (i := 3) rfl)) (by decide) (rm1 l Z a0 hw ((i2 &&& (255 : Int32)).toUInt32.toUInt16.toUInt32.toInt32) cs h2 n0 C2.size S_COMPACT_STRINGS hcs (own_pre1 i0 i1 i2 i3 i4 cs de hcs)) (argsL := [(.int ((i2 &&& (255 : Int32)).toUInt32.toUInt16.toUInt32.toInt32))]) pd1 rfl 0 (by decide) (by decide) (by decide) (by decide) (rest := []) rfl rfl (Nat.le_of_eq rfl) at_22 rfl (fun v3 T3 h3 C3 qq3 => ?_)
    obtain ⟨bs3, rfl, K3, p3_0, p3_1⟩ := qq3
    have K3 := ext_keep K3
    have S_COMPACT_STRINGS := S_COMPACT_STRINGS.ext K3
    have S_DEFAULTCAPACITY_EMPTY_ELEMENTDATA := S_DEFAULTCAPACITY_EMPTY_ELEMENTDATA.ext K3
    have E_bs2 := E_bs2.ext K3
    have E_bs3 := p3_0
    have g_bs3 := p3_1
    show Go p e below F n0 (fun v _ => v = some (.int (1 : Int32))) T3 (mkF m 25 #[.val (.int i0), .val (.int i1), .val (.int i2), .val (.int i3), .val (.int i4), .val (.int (0 : Int32)), .val (.ref bs2), .unset, .unset, .unset, .unset, .unset] [(.ref bs3)])
    refine C3.astore at_25 rfl rfl (L' := #[.val (.int i0), .val (.int i1), .val (.int i2), .val (.int i3), .val (.int i4), .val (.int (0 : Int32)), .val (.ref bs2), .val (.ref bs3), .unset, .unset, .unset, .unset]) rfl ?_
    refine C3.iloadN at_27 rfl rfl ?_
    refine C3.sipush (255 : Int32) at_28 rfl rfl ?_
    refine C3.iand at_31 rfl ?_
    refine C3.i2c at_32 rfl ?_
    refine C3.callS (hw _ (List.mem_of_getElem? (i := 0) rfl)) (hw _ (List.mem_of_getElem? (i := 1) rfl)) (hw _ (List.mem_of_getElem? (i := 2) rfl)) (hw _ (List.mem_of_getElem? (i := 3) rfl)) (by decide) (rm1 l Z a0 hw ((i3 &&& (255 : Int32)).toUInt32.toUInt16.toUInt32.toInt32) cs h3 n0 C3.size S_COMPACT_STRINGS hcs (own_pre2 i0 i1 i2 i3 i4 cs de hcs)) (argsL := [(.int ((i3 &&& (255 : Int32)).toUInt32.toUInt16.toUInt32.toInt32))]) pd1 rfl 0 (by decide) (by decide) (by decide) (by decide) (rest := []) rfl rfl (Nat.le_of_eq rfl) at_33 rfl (fun v4 T4 h4 C4 qq4 => ?_)
    obtain ⟨bs4, rfl, K4, p4_0, p4_1⟩ := qq4
    have K4 := ext_keep K4
    have S_COMPACT_STRINGS := S_COMPACT_STRINGS.ext K4
    have S_DEFAULTCAPACITY_EMPTY_ELEMENTDATA := S_DEFAULTCAPACITY_EMPTY_ELEMENTDATA.ext K4
    have E_bs2 := E_bs2.ext K4
    have E_bs3 := E_bs3.ext K4
    have E_bs4 := p4_0
    have g_bs4 := p4_1
    show Go p e below F n0 (fun v _ => v = some (.int (1 : Int32))) T4 (mkF m 36 #[.val (.int i0), .val (.int i1), .val (.int i2), .val (.int i3), .val (.int i4), .val (.int (0 : Int32)), .val (.ref bs2), .val (.ref bs3), .unset, .unset, .unset, .unset] [(.ref bs4)])
    refine C4.astore at_36 rfl rfl (L' := #[.val (.int i0), .val (.int i1), .val (.int i2), .val (.int i3), .val (.int i4), .val (.int (0 : Int32)), .val (.ref bs2), .val (.ref bs3), .val (.ref bs4), .unset, .unset, .unset]) rfl ?_
    refine C4.iload at_38 rfl rfl ?_
    refine C4.newrefs (hw _ (List.mem_of_getElem? (i := 26) rfl)) (hw _ (List.mem_of_getElem? (i := 27) rfl)) 0 (by decide) (by decide) (by decide) (by decide) (by decide) (ad := "[Ljava/lang/String;") rfl at_40 rfl (fun T5 h5 b5 k5 C5 e5 g_b5 E5 V_b5 E_b5 O_k5 => ?_)
    have ne_bs2_b5 : bs2 ≠ b5 := Nat.ne_of_lt (Nat.lt_of_lt_of_eq E_bs2.lt e5.symm)
    have ne_bs3_b5 : bs3 ≠ b5 := Nat.ne_of_lt (Nat.lt_of_lt_of_eq E_bs3.lt e5.symm)
    have ne_bs4_b5 : bs4 ≠ b5 := Nat.ne_of_lt (Nat.lt_of_lt_of_eq E_bs4.lt e5.symm)
    have S_COMPACT_STRINGS := S_COMPACT_STRINGS.ext E5
    have S_DEFAULTCAPACITY_EMPTY_ELEMENTDATA := S_DEFAULTCAPACITY_EMPTY_ELEMENTDATA.ext E5
    have E_bs2 := E_bs2.ext E5
    have E_bs3 := E_bs3.ext E5
    have E_bs4 := E_bs4.ext E5
    have V_b5 : Arv Z h5 b5 k5 (.object "java/lang/String") (0 : Int32) ([] : List Value) .null := V_b5
    refine C5.astore at_43 rfl rfl (L' := #[.val (.int i0), .val (.int i1), .val (.int i2), .val (.int i3), .val (.int i4), .val (.int (0 : Int32)), .val (.ref bs2), .val (.ref bs3), .val (.ref bs4), .val (.ref b5), .unset, .unset]) rfl ?_
    refine C5.iload at_45 rfl rfl ?_
    refine C5.if_le at_47 (by decide) (by decide : _ = 56) rfl (fun _ => ?_) (fun q => absurd q (by decide))
    refine C5.iload at_56 rfl rfl ?_
    refine C5.iconst (1 : Int32) at_58 rfl rfl ?_
    refine C5.icmp_le at_59 (by decide) (by decide : _ = 68) rfl (fun _ => ?_) (fun q => absurd q (by decide))
    refine C5.iload at_68 rfl rfl ?_
    refine C5.iconst (2 : Int32) at_70 rfl rfl ?_
    refine C5.icmp_le at_71 (by decide) (by decide : _ = 80) rfl (fun _ => ?_) (fun q => absurd q (by decide))
    refine C5.new (hw _ (List.mem_of_getElem? (i := 28) rfl)) (hw _ (List.mem_of_getElem? (i := 29) rfl)) (hw _ (List.mem_of_getElem? (i := 30) rfl)) at_80 rfl (by decide) (by decide) (fun T6 h6 b6 C6 e6 g_b6 E6 E_b6 D6 => ?_)
    have ne_bs2_b6 : bs2 ≠ b6 := Nat.ne_of_lt (Nat.lt_of_lt_of_eq E_bs2.lt e6.symm)
    have ne_bs3_b6 : bs3 ≠ b6 := Nat.ne_of_lt (Nat.lt_of_lt_of_eq E_bs3.lt e6.symm)
    have ne_bs4_b6 : bs4 ≠ b6 := Nat.ne_of_lt (Nat.lt_of_lt_of_eq E_bs4.lt e6.symm)
    have ne_b5_b6 : b5 ≠ b6 := Nat.ne_of_lt (Nat.lt_of_lt_of_eq V_b5.lt e6.symm)
    have S_COMPACT_STRINGS := S_COMPACT_STRINGS.ext E6
    have S_DEFAULTCAPACITY_EMPTY_ELEMENTDATA := S_DEFAULTCAPACITY_EMPTY_ELEMENTDATA.ext E6
    have E_bs2 := E_bs2.ext E6
    have E_bs3 := E_bs3.ext E6
    have E_bs4 := E_bs4.ext E6
    have V_b5 := V_b5.ext E6
    have E_b5 := E_b5.ext E6
    have F_b6_operands : Fld Z h6 b6 "com/example/bouncer/bouncer/cli/Arguments" "operands" "Ljava/util/List;" .null := D6 (Or.inr (hw _ (List.mem_of_getElem? (i := 64) rfl))) (ty := (.object "java/util/List")) (by decide)
    have F_b6_command : Fld Z h6 b6 "com/example/bouncer/bouncer/cli/Arguments" "command" "Ljava/lang/String;" .null := D6 (Or.inr (hw _ (List.mem_of_getElem? (i := 66) rfl))) (ty := (.object "java/lang/String")) (by decide)
    have F_b6_usage : Fld Z h6 b6 "com/example/bouncer/bouncer/cli/Arguments" "usage" "Ljava/lang/String;" .null := D6 (Or.inr (hw _ (List.mem_of_getElem? (i := 68) rfl))) (ty := (.object "java/lang/String")) (by decide)
    have F_b6_arguments : Fld Z h6 b6 "com/example/bouncer/bouncer/cli/Arguments" "arguments" "[Ljava/lang/String;" .null := D6 (Or.inr (hw _ (List.mem_of_getElem? (i := 79) rfl))) (ty := (.array (.object "java/lang/String"))) (by decide)
    have F_b6_maxOperands : Fld Z h6 b6 "com/example/bouncer/bouncer/cli/Arguments" "maxOperands" "I" (.int (0 : Int32)) := D6 (Or.inr (hw _ (List.mem_of_getElem? (i := 81) rfl))) (ty := .int) (by decide)
    have F_b6_next : Fld Z h6 b6 "com/example/bouncer/bouncer/cli/Arguments" "next" "I" (.int (0 : Int32)) := D6 (Or.inl (hw _ (List.mem_of_getElem? (i := 88) rfl))) (ty := .int) (by decide)
    refine C6.dup at_83 rfl rfl ?_
    refine C6.ldcStr (hw _ (List.mem_of_getElem? (i := 31) rfl)) (own_wS hw) 4 (by decide) (by decide) (by decide) (by decide) at_84 rfl (fun s7 T7 h7 C7 E7 => ?_)
    have S_COMPACT_STRINGS := S_COMPACT_STRINGS.ext E7
    have S_DEFAULTCAPACITY_EMPTY_ELEMENTDATA := S_DEFAULTCAPACITY_EMPTY_ELEMENTDATA.ext E7
    have E_bs2 := E_bs2.ext E7
    have E_bs3 := E_bs3.ext E7
    have E_bs4 := E_bs4.ext E7
    have V_b5 := V_b5.ext E7
    have E_b5 := E_b5.ext E7
    have E_b6 := E_b6.ext E7
    have F_b6_operands := F_b6_operands.ext E7
    have F_b6_command := F_b6_command.ext E7
    have F_b6_usage := F_b6_usage.ext E7
    have F_b6_arguments := F_b6_arguments.ext E7
    have F_b6_maxOperands := F_b6_maxOperands.ext E7
    have F_b6_next := F_b6_next.ext E7
    refine C7.ldcStr (hw _ (List.mem_of_getElem? (i := 34) rfl)) (own_wS hw) 4 (by decide) (by decide) (by decide) (by decide) at_86 rfl (fun s8 T8 h8 C8 E8 => ?_)
    have S_COMPACT_STRINGS := S_COMPACT_STRINGS.ext E8
    have S_DEFAULTCAPACITY_EMPTY_ELEMENTDATA := S_DEFAULTCAPACITY_EMPTY_ELEMENTDATA.ext E8
    have E_bs2 := E_bs2.ext E8
    have E_bs3 := E_bs3.ext E8
    have E_bs4 := E_bs4.ext E8
    have V_b5 := V_b5.ext E8
    have E_b5 := E_b5.ext E8
    have E_b6 := E_b6.ext E8
    have F_b6_operands := F_b6_operands.ext E8
    have F_b6_command := F_b6_command.ext E8
    have F_b6_usage := F_b6_usage.ext E8
    have F_b6_arguments := F_b6_arguments.ext E8
    have F_b6_maxOperands := F_b6_maxOperands.ext E8
    have F_b6_next := F_b6_next.ext E8
    refine C8.aload at_88 rfl rfl rfl ?_
    refine C8.iload at_90 rfl rfl ?_
    refine C8.callN rfl (hw _ (List.mem_of_getElem? (i := 35) rfl)) (hw _ (List.mem_of_getElem? (i := 36) rfl)) (hw _ (List.mem_of_getElem? (i := 30) rfl)) (hw _ (List.mem_of_getElem? (i := 37) rfl)) (by decide) (a := b6) (rm6 l Z a0 hw b6 s7 s8 b5 i4 de .null .null .null .null (.int (0 : Int32)) k5 (0 : Int32) [] .null h8 n0 C8.size E_b6 F_b6_operands F_b6_command F_b6_usage F_b6_arguments F_b6_maxOperands F_b6_next g_b6 S_DEFAULTCAPACITY_EMPTY_ELEMENTDATA E_b5 V_b5 (by decide)) (argsL := [(.ref s7), (.ref s8), (.ref b5), (.int i4)]) pd6 rfl 1 (by decide) (by decide) (by decide) (by decide) (rest := [(.ref b6)]) rfl rfl (Nat.le_of_eq rfl) at_92 rfl (fun v9 T9 h9 C9 qq9 => ?_)
    obtain ⟨bc9, rfl, K9, p9_0, p9_1, p9_2, p9_3, p9_4, p9_5⟩ := qq9
    have S_COMPACT_STRINGS := own_stak S_COMPACT_STRINGS K9 (allS (own_plainE E_b6) (all0))
    have S_DEFAULTCAPACITY_EMPTY_ELEMENTDATA := own_stak S_DEFAULTCAPACITY_EMPTY_ELEMENTDATA K9 (allS (own_plainE E_b6) (all0))
    have E_bs2 := E_bs2.keep K9
    have E_bs3 := E_bs3.keep K9
    have E_bs4 := E_bs4.keep K9
    have V_b5 := V_b5.keep K9 (ninS ne_b5_b6 nin0)
    have E_b5 := E_b5.keep K9
    have E_b6 := E_b6.keep K9
    have E_b6 := p9_0
    have F_b6_arguments := p9_1
    have F_b6_next := p9_2
    have E_bc9 := p9_3
    have V_bc9 := p9_4
    have g_bc9 := p9_5
    show Go p e below F n0 (fun v _ => v = some (.int (1 : Int32))) T9 (mkF m 95 #[.val (.int i0), .val (.int i1), .val (.int i2), .val (.int i3), .val (.int i4), .val (.int (0 : Int32)), .val (.ref bs2), .val (.ref bs3), .val (.ref bs4), .val (.ref b5), .unset, .unset] [(.ref b6)])
    refine C9.astore at_95 rfl rfl (L' := #[.val (.int i0), .val (.int i1), .val (.int i2), .val (.int i3), .val (.int i4), .val (.int (0 : Int32)), .val (.ref bs2), .val (.ref bs3), .val (.ref bs4), .val (.ref b5), .val (.ref b6), .unset]) rfl ?_
    refine C9.iconst (1 : Int32) at_97 rfl rfl ?_
    refine C9.istore at_98 rfl (L' := #[.val (.int i0), .val (.int i1), .val (.int i2), .val (.int i3), .val (.int i4), .val (.int (0 : Int32)), .val (.ref bs2), .val (.ref bs3), .val (.ref bs4), .val (.ref b5), .val (.ref b6), .val (.int (1 : Int32))]) rfl ?_
    refine C9.iload at_100 rfl rfl ?_
    refine C9.if_le at_102 (by decide) (by decide : _ = 150) rfl (fun _ => ?_) (fun q => absurd q (by decide))
    refine C9.iload at_150 rfl rfl ?_
    refine C9.iconst (1 : Int32) at_152 rfl rfl ?_
    refine C9.icmp_le at_153 (by decide) (by decide : _ = 201) rfl (fun _ => ?_) (fun q => absurd q (by decide))
    refine C9.iload at_201 rfl rfl ?_
    refine C9.iconst (2 : Int32) at_203 rfl rfl ?_
    refine C9.icmp_le at_204 (by decide) (by decide : _ = 252) rfl (fun _ => ?_) (fun q => absurd q (by decide))
    refine C9.iload at_252 rfl rfl ?_
    refine C9.if_eq at_254 (by decide) (by decide : _ = 269) rfl (fun q => absurd q (by decide)) (fun _ => ?_)
    refine C9.aload at_257 rfl rfl rfl ?_
    refine C9.callV (hw _ (List.mem_of_getElem? (i := 82) rfl)) (hw _ (List.mem_of_getElem? (i := 83) rfl)) (hw _ (List.mem_of_getElem? (i := 85) rfl)) (hw _ (List.mem_of_getElem? (i := 84) rfl)) (hw _ (List.mem_of_getElem? (i := 30) rfl)) (hw _ (List.mem_of_getElem? (i := 86) rfl)) E_b6 (by decide) (a := b6) (rm10 l Z a0 hw b6 bc9 (0 : Int32) k5 (0 : Int32) [] .null h9 n0 C9.size F_b6_arguments F_b6_next V_bc9) (argsL := []) pd10 rfl 0 (by decide) (by decide) (by decide) (by decide) (rest := []) rfl rfl (Nat.le_of_eq rfl) at_259 rfl (fun v10 T10 h10 C10 qq10 => ?_)
    obtain ⟨rfl, hh10⟩ := qq10
    have hh10 := hh10.symm; subst hh10
    show Go p e below F n0 (fun v _ => v = some (.int (1 : Int32))) T10 (mkF m 262 #[.val (.int i0), .val (.int i1), .val (.int i2), .val (.int i3), .val (.int i4), .val (.int (0 : Int32)), .val (.ref bs2), .val (.ref bs3), .val (.ref bs4), .val (.ref b5), .val (.ref b6), .val (.int (1 : Int32))] [(.int (f10 (0 : Int32) (0 : Int32)))])
    refine C10.if_ne at_262 (by decide) (by decide : _ = 269) rfl (fun q => absurd (by decide) q) (fun _ => ?_)
    refine C10.iconst (1 : Int32) at_265 rfl rfl ?_
    refine C10.goto at_266 (by decide) (by decide : _ = 270) ?_
    refine C10.istore at_270 rfl (L' := #[.val (.int i0), .val (.int i1), .val (.int i2), .val (.int i3), .val (.int i4), .val (.int (0 : Int32)), .val (.ref bs2), .val (.ref bs3), .val (.ref bs4), .val (.ref b5), .val (.ref b6), .val (.int (1 : Int32))]) rfl ?_
    refine C10.iload at_272 rfl rfl ?_
    exact C10.retN (t := .boolean) at_274 rfl (by simp) (by decide) (by decide) (w := (1 : Int32)) rfl rfl
  · subst e
    refine C0.iloadN at_5 rfl rfl ?_
    refine C0.sipush (255 : Int32) at_6 rfl rfl ?_
    refine C0.iand at_9 rfl ?_
    refine C0.i2c at_10 rfl ?_
    refine C0.callS (hw _ (List.mem_of_getElem? (i := 0) rfl)) (hw _ (List.mem_of_getElem? (i := 1) rfl)) (hw _ (List.mem_of_getElem? (i := 2) rfl)) (hw _ (List.mem_of_getElem? (i := 3) rfl)) (by decide) (rm1 l Z a0 hw ((i1 &&& (255 : Int32)).toUInt32.toUInt16.toUInt32.toInt32) cs h0 n0 C0.size S_COMPACT_STRINGS hcs (own_pre0 i0 i1 i2 i3 i4 cs de hcs)) (argsL := [(.int ((i1 &&& (255 : Int32)).toUInt32.toUInt16.toUInt32.toInt32))]) pd1 rfl 0 (by decide) (by decide) (by decide) (by decide) (rest := []) rfl rfl (Nat.le_of_eq rfl) at_11 rfl (fun v11 T11 h11 C11 qq11 => ?_)
    obtain ⟨bs11, rfl, K11, p11_0, p11_1⟩ := qq11
    have K11 := ext_keep K11
    have S_COMPACT_STRINGS := S_COMPACT_STRINGS.ext K11
    have S_DEFAULTCAPACITY_EMPTY_ELEMENTDATA := S_DEFAULTCAPACITY_EMPTY_ELEMENTDATA.ext K11
    have E_bs11 := p11_0
    have g_bs11 := p11_1
    show Go p e below F n0 (fun v _ => v = some (.int (1 : Int32))) T11 (mkF m 14 #[.val (.int i0), .val (.int i1), .val (.int i2), .val (.int i3), .val (.int i4), .val (.int (1 : Int32)), .unset, .unset, .unset, .unset, .unset, .unset] [(.ref bs11)])
    refine C11.astore at_14 rfl rfl (L' := #[.val (.int i0), .val (.int i1), .val (.int i2), .val (.int i3), .val (.int i4), .val (.int (1 : Int32)), .val (.ref bs11), .unset, .unset, .unset, .unset, .unset]) rfl ?_
    refine C11.iloadN at_16 rfl rfl ?_
    refine C11.sipush (255 : Int32) at_17 rfl rfl ?_
    refine C11.iand at_20 rfl ?_
    refine C11.i2c at_21 rfl ?_
    refine C11.callS (hw _ (List.mem_of_getElem? (i := 0) rfl)) (hw _ (List.mem_of_getElem? (i := 1) rfl)) (hw _ (List.mem_of_getElem? (i := 2) rfl)) (hw _ (List.mem_of_getElem? (i := 3) rfl)) (by decide) (rm1 l Z a0 hw ((i2 &&& (255 : Int32)).toUInt32.toUInt16.toUInt32.toInt32) cs h11 n0 C11.size S_COMPACT_STRINGS hcs (own_pre1 i0 i1 i2 i3 i4 cs de hcs)) (argsL := [(.int ((i2 &&& (255 : Int32)).toUInt32.toUInt16.toUInt32.toInt32))]) pd1 rfl 0 (by decide) (by decide) (by decide) (by decide) (rest := []) rfl rfl (Nat.le_of_eq rfl) at_22 rfl (fun v12 T12 h12 C12 qq12 => ?_)
    obtain ⟨bs12, rfl, K12, p12_0, p12_1⟩ := qq12
    have K12 := ext_keep K12
    have S_COMPACT_STRINGS := S_COMPACT_STRINGS.ext K12
    have S_DEFAULTCAPACITY_EMPTY_ELEMENTDATA := S_DEFAULTCAPACITY_EMPTY_ELEMENTDATA.ext K12
    have E_bs11 := E_bs11.ext K12
    have E_bs12 := p12_0
    have g_bs12 := p12_1
    show Go p e below F n0 (fun v _ => v = some (.int (1 : Int32))) T12 (mkF m 25 #[.val (.int i0), .val (.int i1), .val (.int i2), .val (.int i3), .val (.int i4), .val (.int (1 : Int32)), .val (.ref bs11), .unset, .unset, .unset, .unset, .unset] [(.ref bs12)])
    refine C12.astore at_25 rfl rfl (L' := #[.val (.int i0), .val (.int i1), .val (.int i2), .val (.int i3), .val (.int i4), .val (.int (1 : Int32)), .val (.ref bs11), .val (.ref bs12), .unset, .unset, .unset, .unset]) rfl ?_
    refine C12.iloadN at_27 rfl rfl ?_
    refine C12.sipush (255 : Int32) at_28 rfl rfl ?_
    refine C12.iand at_31 rfl ?_
    refine C12.i2c at_32 rfl ?_
    refine C12.callS (hw _ (List.mem_of_getElem? (i := 0) rfl)) (hw _ (List.mem_of_getElem? (i := 1) rfl)) (hw _ (List.mem_of_getElem? (i := 2) rfl)) (hw _ (List.mem_of_getElem? (i := 3) rfl)) (by decide) (rm1 l Z a0 hw ((i3 &&& (255 : Int32)).toUInt32.toUInt16.toUInt32.toInt32) cs h12 n0 C12.size S_COMPACT_STRINGS hcs (own_pre2 i0 i1 i2 i3 i4 cs de hcs)) (argsL := [(.int ((i3 &&& (255 : Int32)).toUInt32.toUInt16.toUInt32.toInt32))]) pd1 rfl 0 (by decide) (by decide) (by decide) (by decide) (rest := []) rfl rfl (Nat.le_of_eq rfl) at_33 rfl (fun v13 T13 h13 C13 qq13 => ?_)
    obtain ⟨bs13, rfl, K13, p13_0, p13_1⟩ := qq13
    have K13 := ext_keep K13
    have S_COMPACT_STRINGS := S_COMPACT_STRINGS.ext K13
    have S_DEFAULTCAPACITY_EMPTY_ELEMENTDATA := S_DEFAULTCAPACITY_EMPTY_ELEMENTDATA.ext K13
    have E_bs11 := E_bs11.ext K13
    have E_bs12 := E_bs12.ext K13
    have E_bs13 := p13_0
    have g_bs13 := p13_1
    show Go p e below F n0 (fun v _ => v = some (.int (1 : Int32))) T13 (mkF m 36 #[.val (.int i0), .val (.int i1), .val (.int i2), .val (.int i3), .val (.int i4), .val (.int (1 : Int32)), .val (.ref bs11), .val (.ref bs12), .unset, .unset, .unset, .unset] [(.ref bs13)])
    refine C13.astore at_36 rfl rfl (L' := #[.val (.int i0), .val (.int i1), .val (.int i2), .val (.int i3), .val (.int i4), .val (.int (1 : Int32)), .val (.ref bs11), .val (.ref bs12), .val (.ref bs13), .unset, .unset, .unset]) rfl ?_
    refine C13.iload at_38 rfl rfl ?_
    refine C13.newrefs (hw _ (List.mem_of_getElem? (i := 26) rfl)) (hw _ (List.mem_of_getElem? (i := 27) rfl)) 1 (by decide) (by decide) (by decide) (by decide) (by decide) (ad := "[Ljava/lang/String;") rfl at_40 rfl (fun T14 h14 b14 k14 C14 e14 g_b14 E14 V_b14 E_b14 O_k14 => ?_)
    have ne_bs11_b14 : bs11 ≠ b14 := Nat.ne_of_lt (Nat.lt_of_lt_of_eq E_bs11.lt e14.symm)
    have ne_bs12_b14 : bs12 ≠ b14 := Nat.ne_of_lt (Nat.lt_of_lt_of_eq E_bs12.lt e14.symm)
    have ne_bs13_b14 : bs13 ≠ b14 := Nat.ne_of_lt (Nat.lt_of_lt_of_eq E_bs13.lt e14.symm)
    have S_COMPACT_STRINGS := S_COMPACT_STRINGS.ext E14
    have S_DEFAULTCAPACITY_EMPTY_ELEMENTDATA := S_DEFAULTCAPACITY_EMPTY_ELEMENTDATA.ext E14
    have E_bs11 := E_bs11.ext E14
    have E_bs12 := E_bs12.ext E14
    have E_bs13 := E_bs13.ext E14
    have V_b14 : Arv Z h14 b14 k14 (.object "java/lang/String") (1 : Int32) ([.null] : List Value) .null := V_b14
    refine C14.astore at_43 rfl rfl (L' := #[.val (.int i0), .val (.int i1), .val (.int i2), .val (.int i3), .val (.int i4), .val (.int (1 : Int32)), .val (.ref bs11), .val (.ref bs12), .val (.ref bs13), .val (.ref b14), .unset, .unset]) rfl ?_
    refine C14.iload at_45 rfl rfl ?_
    refine C14.if_le at_47 (by decide) (by decide : _ = 56) rfl (fun q => absurd (by decide) q) (fun _ => ?_)
    refine C14.aload at_50 rfl rfl rfl ?_
    refine C14.iconst (0 : Int32) at_52 rfl rfl ?_
    refine C14.aload at_53 rfl rfl rfl ?_
    refine C14.aastore V_b14 O_k14 (Ins.self E_bs11) ⟨by decide, by decide⟩ (Nat.le_of_ble_eq_true rfl) g_b14 at_55 rfl (fun T15 h15 C15 W15 Vn15 => ?_)
    have S_COMPACT_STRINGS := S_COMPACT_STRINGS.wr W15
    have S_DEFAULTCAPACITY_EMPTY_ELEMENTDATA := S_DEFAULTCAPACITY_EMPTY_ELEMENTDATA.wr W15
    have E_bs11 := E_bs11.wr W15
    have E_bs12 := E_bs12.wr W15
    have E_bs13 := E_bs13.wr W15
    have E_b14 := E_b14.wr W15
    have V_b14 : Arv Z h15 b14 k14 (.object "java/lang/String") (1 : Int32) [(.ref bs11)] .null := Vn15
    refine C15.iload at_56 rfl rfl ?_
    refine C15.iconst (1 : Int32) at_58 rfl rfl ?_
    refine C15.icmp_le at_59 (by decide) (by decide : _ = 68) rfl (fun _ => ?_) (fun q => absurd q (by decide))
    refine C15.iload at_68 rfl rfl ?_
    refine C15.iconst (2 : Int32) at_70 rfl rfl ?_
    refine C15.icmp_le at_71 (by decide) (by decide : _ = 80) rfl (fun _ => ?_) (fun q => absurd q (by decide))
    refine C15.new (hw _ (List.mem_of_getElem? (i := 28) rfl)) (hw _ (List.mem_of_getElem? (i := 29) rfl)) (hw _ (List.mem_of_getElem? (i := 30) rfl)) at_80 rfl (by decide) (by decide) (fun T16 h16 b16 C16 e16 g_b16 E16 E_b16 D16 => ?_)
    have ne_bs11_b16 : bs11 ≠ b16 := Nat.ne_of_lt (Nat.lt_of_lt_of_eq E_bs11.lt e16.symm)
    have ne_bs12_b16 : bs12 ≠ b16 := Nat.ne_of_lt (Nat.lt_of_lt_of_eq E_bs12.lt e16.symm)
    have ne_bs13_b16 : bs13 ≠ b16 := Nat.ne_of_lt (Nat.lt_of_lt_of_eq E_bs13.lt e16.symm)
    have ne_b14_b16 : b14 ≠ b16 := Nat.ne_of_lt (Nat.lt_of_lt_of_eq V_b14.lt e16.symm)
    have S_COMPACT_STRINGS := S_COMPACT_STRINGS.ext E16
    have S_DEFAULTCAPACITY_EMPTY_ELEMENTDATA := S_DEFAULTCAPACITY_EMPTY_ELEMENTDATA.ext E16
    have E_bs11 := E_bs11.ext E16
    have E_bs12 := E_bs12.ext E16
    have E_bs13 := E_bs13.ext E16
    have V_b14 := V_b14.ext E16
    have E_b14 := E_b14.ext E16
    have F_b16_operands : Fld Z h16 b16 "com/example/bouncer/bouncer/cli/Arguments" "operands" "Ljava/util/List;" .null := D16 (Or.inr (hw _ (List.mem_of_getElem? (i := 64) rfl))) (ty := (.object "java/util/List")) (by decide)
    have F_b16_command : Fld Z h16 b16 "com/example/bouncer/bouncer/cli/Arguments" "command" "Ljava/lang/String;" .null := D16 (Or.inr (hw _ (List.mem_of_getElem? (i := 66) rfl))) (ty := (.object "java/lang/String")) (by decide)
    have F_b16_usage : Fld Z h16 b16 "com/example/bouncer/bouncer/cli/Arguments" "usage" "Ljava/lang/String;" .null := D16 (Or.inr (hw _ (List.mem_of_getElem? (i := 68) rfl))) (ty := (.object "java/lang/String")) (by decide)
    have F_b16_arguments : Fld Z h16 b16 "com/example/bouncer/bouncer/cli/Arguments" "arguments" "[Ljava/lang/String;" .null := D16 (Or.inr (hw _ (List.mem_of_getElem? (i := 79) rfl))) (ty := (.array (.object "java/lang/String"))) (by decide)
    have F_b16_maxOperands : Fld Z h16 b16 "com/example/bouncer/bouncer/cli/Arguments" "maxOperands" "I" (.int (0 : Int32)) := D16 (Or.inr (hw _ (List.mem_of_getElem? (i := 81) rfl))) (ty := .int) (by decide)
    have F_b16_next : Fld Z h16 b16 "com/example/bouncer/bouncer/cli/Arguments" "next" "I" (.int (0 : Int32)) := D16 (Or.inl (hw _ (List.mem_of_getElem? (i := 88) rfl))) (ty := .int) (by decide)
    refine C16.dup at_83 rfl rfl ?_
    refine C16.ldcStr (hw _ (List.mem_of_getElem? (i := 31) rfl)) (own_wS hw) 4 (by decide) (by decide) (by decide) (by decide) at_84 rfl (fun s17 T17 h17 C17 E17 => ?_)
    have S_COMPACT_STRINGS := S_COMPACT_STRINGS.ext E17
    have S_DEFAULTCAPACITY_EMPTY_ELEMENTDATA := S_DEFAULTCAPACITY_EMPTY_ELEMENTDATA.ext E17
    have E_bs11 := E_bs11.ext E17
    have E_bs12 := E_bs12.ext E17
    have E_bs13 := E_bs13.ext E17
    have V_b14 := V_b14.ext E17
    have E_b14 := E_b14.ext E17
    have E_b16 := E_b16.ext E17
    have F_b16_operands := F_b16_operands.ext E17
    have F_b16_command := F_b16_command.ext E17
    have F_b16_usage := F_b16_usage.ext E17
    have F_b16_arguments := F_b16_arguments.ext E17
    have F_b16_maxOperands := F_b16_maxOperands.ext E17
    have F_b16_next := F_b16_next.ext E17
    refine C17.ldcStr (hw _ (List.mem_of_getElem? (i := 34) rfl)) (own_wS hw) 4 (by decide) (by decide) (by decide) (by decide) at_86 rfl (fun s18 T18 h18 C18 E18 => ?_)
    have S_COMPACT_STRINGS := S_COMPACT_STRINGS.ext E18
    have S_DEFAULTCAPACITY_EMPTY_ELEMENTDATA := S_DEFAULTCAPACITY_EMPTY_ELEMENTDATA.ext E18
    have E_bs11 := E_bs11.ext E18
    have E_bs12 := E_bs12.ext E18
    have E_bs13 := E_bs13.ext E18
    have V_b14 := V_b14.ext E18
    have E_b14 := E_b14.ext E18
    have E_b16 := E_b16.ext E18
    have F_b16_operands := F_b16_operands.ext E18
    have F_b16_command := F_b16_command.ext E18
    have F_b16_usage := F_b16_usage.ext E18
    have F_b16_arguments := F_b16_arguments.ext E18
    have F_b16_maxOperands := F_b16_maxOperands.ext E18
    have F_b16_next := F_b16_next.ext E18
    refine C18.aload at_88 rfl rfl rfl ?_
    refine C18.iload at_90 rfl rfl ?_
    refine C18.callN rfl (hw _ (List.mem_of_getElem? (i := 35) rfl)) (hw _ (List.mem_of_getElem? (i := 36) rfl)) (hw _ (List.mem_of_getElem? (i := 30) rfl)) (hw _ (List.mem_of_getElem? (i := 37) rfl)) (by decide) (a := b16) (rm6 l Z a0 hw b16 s17 s18 b14 i4 de .null .null .null .null (.int (0 : Int32)) k14 (1 : Int32) [(.ref bs11)] .null h18 n0 C18.size E_b16 F_b16_operands F_b16_command F_b16_usage F_b16_arguments F_b16_maxOperands F_b16_next g_b16 S_DEFAULTCAPACITY_EMPTY_ELEMENTDATA E_b14 V_b14 (by decide)) (argsL := [(.ref s17), (.ref s18), (.ref b14), (.int i4)]) pd6 rfl 1 (by decide) (by decide) (by decide) (by decide) (rest := [(.ref b16)]) rfl rfl (Nat.le_of_eq rfl) at_92 rfl (fun v19 T19 h19 C19 qq19 => ?_)
    obtain ⟨bc19, rfl, K19, p19_0, p19_1, p19_2, p19_3, p19_4, p19_5⟩ := qq19
    have S_COMPACT_STRINGS := own_stak S_COMPACT_STRINGS K19 (allS (own_plainE E_b16) (all0))
    have S_DEFAULTCAPACITY_EMPTY_ELEMENTDATA := own_stak S_DEFAULTCAPACITY_EMPTY_ELEMENTDATA K19 (allS (own_plainE E_b16) (all0))
    have E_bs11 := E_bs11.keep K19
    have E_bs12 := E_bs12.keep K19
    have E_bs13 := E_bs13.keep K19
    have V_b14 := V_b14.keep K19 (ninS ne_b14_b16 nin0)
    have E_b14 := E_b14.keep K19
    have E_b16 := E_b16.keep K19
    have E_b16 := p19_0
    have F_b16_arguments := p19_1
    have F_b16_next := p19_2
    have E_bc19 := p19_3
    have V_bc19 := p19_4
    have g_bc19 := p19_5
    show Go p e below F n0 (fun v _ => v = some (.int (1 : Int32))) T19 (mkF m 95 #[.val (.int i0), .val (.int i1), .val (.int i2), .val (.int i3), .val (.int i4), .val (.int (1 : Int32)), .val (.ref bs11), .val (.ref bs12), .val (.ref bs13), .val (.ref b14), .unset, .unset] [(.ref b16)])
    refine C19.astore at_95 rfl rfl (L' := #[.val (.int i0), .val (.int i1), .val (.int i2), .val (.int i3), .val (.int i4), .val (.int (1 : Int32)), .val (.ref bs11), .val (.ref bs12), .val (.ref bs13), .val (.ref b14), .val (.ref b16), .unset]) rfl ?_
    refine C19.iconst (1 : Int32) at_97 rfl rfl ?_
    refine C19.istore at_98 rfl (L' := #[.val (.int i0), .val (.int i1), .val (.int i2), .val (.int i3), .val (.int i4), .val (.int (1 : Int32)), .val (.ref bs11), .val (.ref bs12), .val (.ref bs13), .val (.ref b14), .val (.ref b16), .val (.int (1 : Int32))]) rfl ?_
    refine C19.iload at_100 rfl rfl ?_
    refine C19.if_le at_102 (by decide) (by decide : _ = 150) rfl (fun q => absurd (by decide) q) (fun _ => ?_)
    refine C19.iload at_105 rfl rfl ?_
    refine C19.if_eq at_107 (by decide) (by decide : _ = 122) rfl (fun q => absurd q (by decide)) (fun _ => ?_)
    refine C19.aload at_110 rfl rfl rfl ?_
    refine C19.callV (hw _ (List.mem_of_getElem? (i := 82) rfl)) (hw _ (List.mem_of_getElem? (i := 83) rfl)) (hw _ (List.mem_of_getElem? (i := 85) rfl)) (hw _ (List.mem_of_getElem? (i := 84) rfl)) (hw _ (List.mem_of_getElem? (i := 30) rfl)) (hw _ (List.mem_of_getElem? (i := 86) rfl)) E_b16 (by decide) (a := b16) (rm10 l Z a0 hw b16 bc19 (0 : Int32) k14 (1 : Int32) [(.ref bs11)] .null h19 n0 C19.size F_b16_arguments F_b16_next V_bc19) (argsL := []) pd10 rfl 0 (by decide) (by decide) (by decide) (by decide) (rest := []) rfl rfl (Nat.le_of_eq rfl) at_112 rfl (fun v20 T20 h20 C20 qq20 => ?_)
    obtain ⟨rfl, hh20⟩ := qq20
    have hh20 := hh20.symm; subst hh20
    show Go p e below F n0 (fun v _ => v = some (.int (1 : Int32))) T20 (mkF m 115 #[.val (.int i0), .val (.int i1), .val (.int i2), .val (.int i3), .val (.int i4), .val (.int (1 : Int32)), .val (.ref bs11), .val (.ref bs12), .val (.ref bs13), .val (.ref b14), .val (.ref b16), .val (.int (1 : Int32))] [(.int (f10 (0 : Int32) (1 : Int32)))])
    refine C20.if_eq at_115 (by decide) (by decide : _ = 122) rfl (fun q => absurd q (by decide)) (fun _ => ?_)
    refine C20.iconst (1 : Int32) at_118 rfl rfl ?_
    refine C20.goto at_119 (by decide) (by decide : _ = 123) ?_
    refine C20.istore at_123 rfl (L' := #[.val (.int i0), .val (.int i1), .val (.int i2), .val (.int i3), .val (.int i4), .val (.int (1 : Int32)), .val (.ref bs11), .val (.ref bs12), .val (.ref bs13), .val (.ref b14), .val (.ref b16), .val (.int (1 : Int32))]) rfl ?_
    refine C20.iload at_125 rfl rfl ?_
    refine C20.if_eq at_127 (by decide) (by decide : _ = 147) rfl (fun q => absurd q (by decide)) (fun _ => ?_)
    refine C20.aload at_130 rfl rfl rfl ?_
    refine C20.aload at_132 rfl rfl rfl ?_
    refine C20.callV (hw _ (List.mem_of_getElem? (i := 89) rfl)) (hw _ (List.mem_of_getElem? (i := 90) rfl)) (hw _ (List.mem_of_getElem? (i := 92) rfl)) (hw _ (List.mem_of_getElem? (i := 91) rfl)) (hw _ (List.mem_of_getElem? (i := 30) rfl)) (hw _ (List.mem_of_getElem? (i := 93) rfl)) E_b16 (by decide) (a := b16) (rm11 l Z a0 hw b16 bc19 (0 : Int32) k14 (1 : Int32) [(.ref bs11)] .null bs11 h19 n0 C20.size E_b16 F_b16_arguments F_b16_next V_bc19 E_bc19 g_b16 ⟨by decide, by decide⟩ rfl) (argsL := []) pd11 rfl 1 (by decide) (by decide) (by decide) (by decide) (rest := [(.ref bs11)]) rfl rfl (Nat.le_of_eq rfl) at_134 rfl (fun v21 T21 h21 C21 qq21 => ?_)
    obtain ⟨rfl, K21, p21_0, p21_1, p21_2⟩ := qq21
    have ne_bc19_b16 : bc19 ≠ b16 := (ne_exa E_bc19 E_b16 (by decide))
    have S_COMPACT_STRINGS := own_stak S_COMPACT_STRINGS K21 (allS (own_plainE E_b16) (all0))
    have S_DEFAULTCAPACITY_EMPTY_ELEMENTDATA := own_stak S_DEFAULTCAPACITY_EMPTY_ELEMENTDATA K21 (allS (own_plainE E_b16) (all0))
    have E_bs11 := E_bs11.keep K21
    have E_bs12 := E_bs12.keep K21
    have E_bs13 := E_bs13.keep K21
    have V_b14 := V_b14.keep K21 (ninS ne_b14_b16 nin0)
    have E_b14 := E_b14.keep K21
    have E_b16 := E_b16.keep K21
    have E_bc19 := E_bc19.keep K21
    have V_bc19 := V_bc19.keep K21 (ninS ne_bc19_b16 nin0)
    have E_b16 := p21_0
    have F_b16_arguments := p21_1
    have F_b16_next := p21_2
    show Go p e below F n0 (fun v _ => v = some (.int (1 : Int32))) T21 (mkF m 137 #[.val (.int i0), .val (.int i1), .val (.int i2), .val (.int i3), .val (.int i4), .val (.int (1 : Int32)), .val (.ref bs11), .val (.ref bs12), .val (.ref bs13), .val (.ref b14), .val (.ref b16), .val (.int (1 : Int32))] [(.ref bs11), (.ref bs11)])
    refine C21.callV (hw _ (List.mem_of_getElem? (i := 94) rfl)) (hw _ (List.mem_of_getElem? (i := 95) rfl)) (hw _ (List.mem_of_getElem? (i := 97) rfl)) (hw _ (List.mem_of_getElem? (i := 96) rfl)) (hw _ (List.mem_of_getElem? (i := 2) rfl)) (hw _ (List.mem_of_getElem? (i := 98) rfl)) E_bs11 (by decide) (a := bs11) (rm12 l Z a0 hw bs11 bs11 h21 n0 C21.size rfl) (argsL := [(.ref bs11)]) pd12 rfl 0 (by decide) (by decide) (by decide) (by decide) (rest := []) rfl rfl (Nat.le_of_eq rfl) at_137 rfl (fun v22 T22 h22 C22 qq22 => ?_)
    obtain ⟨rfl, hh22⟩ := qq22
    have hh22 := hh22.symm; subst hh22
    show Go p e below F n0 (fun v _ => v = some (.int (1 : Int32))) T22 (mkF m 140 #[.val (.int i0), .val (.int i1), .val (.int i2), .val (.int i3), .val (.int i4), .val (.int (1 : Int32)), .val (.ref bs11), .val (.ref bs12), .val (.ref bs13), .val (.ref b14), .val (.ref b16), .val (.int (1 : Int32))] [(.int (1 : Int32))])
    refine C22.if_eq at_140 (by decide) (by decide : _ = 147) rfl (fun q => absurd q (by decide)) (fun _ => ?_)
    refine C22.iconst (1 : Int32) at_143 rfl rfl ?_
    refine C22.goto at_144 (by decide) (by decide : _ = 148) ?_
    refine C22.istore at_148 rfl (L' := #[.val (.int i0), .val (.int i1), .val (.int i2), .val (.int i3), .val (.int i4), .val (.int (1 : Int32)), .val (.ref bs11), .val (.ref bs12), .val (.ref bs13), .val (.ref b14), .val (.ref b16), .val (.int (1 : Int32))]) rfl ?_
    refine C22.iload at_150 rfl rfl ?_
    refine C22.iconst (1 : Int32) at_152 rfl rfl ?_
    refine C22.icmp_le at_153 (by decide) (by decide : _ = 201) rfl (fun _ => ?_) (fun q => absurd q (by decide))
    refine C22.iload at_201 rfl rfl ?_
    refine C22.iconst (2 : Int32) at_203 rfl rfl ?_
    refine C22.icmp_le at_204 (by decide) (by decide : _ = 252) rfl (fun _ => ?_) (fun q => absurd q (by decide))
    refine C22.iload at_252 rfl rfl ?_
    refine C22.if_eq at_254 (by decide) (by decide : _ = 269) rfl (fun q => absurd q (by decide)) (fun _ => ?_)
    refine C22.aload at_257 rfl rfl rfl ?_
    refine C22.callV (hw _ (List.mem_of_getElem? (i := 82) rfl)) (hw _ (List.mem_of_getElem? (i := 83) rfl)) (hw _ (List.mem_of_getElem? (i := 85) rfl)) (hw _ (List.mem_of_getElem? (i := 84) rfl)) (hw _ (List.mem_of_getElem? (i := 30) rfl)) (hw _ (List.mem_of_getElem? (i := 86) rfl)) E_b16 (by decide) (a := b16) (rm10 l Z a0 hw b16 bc19 ((0 : Int32) + (1 : Int32)) k14 (1 : Int32) [(.ref bs11)] .null h21 n0 C22.size F_b16_arguments F_b16_next V_bc19) (argsL := []) pd10 rfl 0 (by decide) (by decide) (by decide) (by decide) (rest := []) rfl rfl (Nat.le_of_eq rfl) at_259 rfl (fun v23 T23 h23 C23 qq23 => ?_)
    obtain ⟨rfl, hh23⟩ := qq23
    have hh23 := hh23.symm; subst hh23
    show Go p e below F n0 (fun v _ => v = some (.int (1 : Int32))) T23 (mkF m 262 #[.val (.int i0), .val (.int i1), .val (.int i2), .val (.int i3), .val (.int i4), .val (.int (1 : Int32)), .val (.ref bs11), .val (.ref bs12), .val (.ref bs13), .val (.ref b14), .val (.ref b16), .val (.int (1 : Int32))] [(.int (f10 ((0 : Int32) + (1 : Int32)) (1 : Int32)))])
    refine C23.if_ne at_262 (by decide) (by decide : _ = 269) rfl (fun q => absurd (by decide) q) (fun _ => ?_)
    refine C23.iconst (1 : Int32) at_265 rfl rfl ?_
    refine C23.goto at_266 (by decide) (by decide : _ = 270) ?_
    refine C23.istore at_270 rfl (L' := #[.val (.int i0), .val (.int i1), .val (.int i2), .val (.int i3), .val (.int i4), .val (.int (1 : Int32)), .val (.ref bs11), .val (.ref bs12), .val (.ref bs13), .val (.ref b14), .val (.ref b16), .val (.int (1 : Int32))]) rfl ?_
    refine C23.iload at_272 rfl rfl ?_
    exact C23.retN (t := .boolean) at_274 rfl (by simp) (by decide) (by decide) (w := (1 : Int32)) rfl rfl
  · subst e
    refine C0.iloadN at_5 rfl rfl ?_
    refine C0.sipush (255 : Int32) at_6 rfl rfl ?_
    refine C0.iand at_9 rfl ?_
    refine C0.i2c at_10 rfl ?_
    refine C0.callS (hw _ (List.mem_of_getElem? (i := 0) rfl)) (hw _ (List.mem_of_getElem? (i := 1) rfl)) (hw _ (List.mem_of_getElem? (i := 2) rfl)) (hw _ (List.mem_of_getElem? (i := 3) rfl)) (by decide) (rm1 l Z a0 hw ((i1 &&& (255 : Int32)).toUInt32.toUInt16.toUInt32.toInt32) cs h0 n0 C0.size S_COMPACT_STRINGS hcs (own_pre0 i0 i1 i2 i3 i4 cs de hcs)) (argsL := [(.int ((i1 &&& (255 : Int32)).toUInt32.toUInt16.toUInt32.toInt32))]) pd1 rfl 0 (by decide) (by decide) (by decide) (by decide) (rest := []) rfl rfl (Nat.le_of_eq rfl) at_11 rfl (fun v24 T24 h24 C24 qq24 => ?_)
    obtain ⟨bs24, rfl, K24, p24_0, p24_1⟩ := qq24
    have K24 := ext_keep K24
    have S_COMPACT_STRINGS := S_COMPACT_STRINGS.ext K24
    have S_DEFAULTCAPACITY_EMPTY_ELEMENTDATA := S_DEFAULTCAPACITY_EMPTY_ELEMENTDATA.ext K24
    have E_bs24 := p24_0
    have g_bs24 := p24_1
    show Go p e below F n0 (fun v _ => v = some (.int (1 : Int32))) T24 (mkF m 14 #[.val (.int i0), .val (.int i1), .val (.int i2), .val (.int i3), .val (.int i4), .val (.int (2 : Int32)), .unset, .unset, .unset, .unset, .unset, .unset] [(.ref bs24)])
    refine C24.astore at_14 rfl rfl (L' := #[.val (.int i0), .val (.int i1), .val (.int i2), .val (.int i3), .val (.int i4), .val (.int (2 : Int32)), .val (.ref bs24), .unset, .unset, .unset, .unset, .unset]) rfl ?_
    refine C24.iloadN at_16 rfl rfl ?_
    refine C24.sipush (255 : Int32) at_17 rfl rfl ?_
    refine C24.iand at_20 rfl ?_
    refine C24.i2c at_21 rfl ?_
    refine C24.callS (hw _ (List.mem_of_getElem? (i := 0) rfl)) (hw _ (List.mem_of_getElem? (i := 1) rfl)) (hw _ (List.mem_of_getElem? (i := 2) rfl)) (hw _ (List.mem_of_getElem? (i := 3) rfl)) (by decide) (rm1 l Z a0 hw ((i2 &&& (255 : Int32)).toUInt32.toUInt16.toUInt32.toInt32) cs h24 n0 C24.size S_COMPACT_STRINGS hcs (own_pre1 i0 i1 i2 i3 i4 cs de hcs)) (argsL := [(.int ((i2 &&& (255 : Int32)).toUInt32.toUInt16.toUInt32.toInt32))]) pd1 rfl 0 (by decide) (by decide) (by decide) (by decide) (rest := []) rfl rfl (Nat.le_of_eq rfl) at_22 rfl (fun v25 T25 h25 C25 qq25 => ?_)
    obtain ⟨bs25, rfl, K25, p25_0, p25_1⟩ := qq25
    have K25 := ext_keep K25
    have S_COMPACT_STRINGS := S_COMPACT_STRINGS.ext K25
    have S_DEFAULTCAPACITY_EMPTY_ELEMENTDATA := S_DEFAULTCAPACITY_EMPTY_ELEMENTDATA.ext K25
    have E_bs24 := E_bs24.ext K25
    have E_bs25 := p25_0
    have g_bs25 := p25_1
    show Go p e below F n0 (fun v _ => v = some (.int (1 : Int32))) T25 (mkF m 25 #[.val (.int i0), .val (.int i1), .val (.int i2), .val (.int i3), .val (.int i4), .val (.int (2 : Int32)), .val (.ref bs24), .unset, .unset, .unset, .unset, .unset] [(.ref bs25)])
    refine C25.astore at_25 rfl rfl (L' := #[.val (.int i0), .val (.int i1), .val (.int i2), .val (.int i3), .val (.int i4), .val (.int (2 : Int32)), .val (.ref bs24), .val (.ref bs25), .unset, .unset, .unset, .unset]) rfl ?_
    refine C25.iloadN at_27 rfl rfl ?_
    refine C25.sipush (255 : Int32) at_28 rfl rfl ?_
    refine C25.iand at_31 rfl ?_
    refine C25.i2c at_32 rfl ?_
    refine C25.callS (hw _ (List.mem_of_getElem? (i := 0) rfl)) (hw _ (List.mem_of_getElem? (i := 1) rfl)) (hw _ (List.mem_of_getElem? (i := 2) rfl)) (hw _ (List.mem_of_getElem? (i := 3) rfl)) (by decide) (rm1 l Z a0 hw ((i3 &&& (255 : Int32)).toUInt32.toUInt16.toUInt32.toInt32) cs h25 n0 C25.size S_COMPACT_STRINGS hcs (own_pre2 i0 i1 i2 i3 i4 cs de hcs)) (argsL := [(.int ((i3 &&& (255 : Int32)).toUInt32.toUInt16.toUInt32.toInt32))]) pd1 rfl 0 (by decide) (by decide) (by decide) (by decide) (rest := []) rfl rfl (Nat.le_of_eq rfl) at_33 rfl (fun v26 T26 h26 C26 qq26 => ?_)
    obtain ⟨bs26, rfl, K26, p26_0, p26_1⟩ := qq26
    have K26 := ext_keep K26
    have S_COMPACT_STRINGS := S_COMPACT_STRINGS.ext K26
    have S_DEFAULTCAPACITY_EMPTY_ELEMENTDATA := S_DEFAULTCAPACITY_EMPTY_ELEMENTDATA.ext K26
    have E_bs24 := E_bs24.ext K26
    have E_bs25 := E_bs25.ext K26
    have E_bs26 := p26_0
    have g_bs26 := p26_1
    show Go p e below F n0 (fun v _ => v = some (.int (1 : Int32))) T26 (mkF m 36 #[.val (.int i0), .val (.int i1), .val (.int i2), .val (.int i3), .val (.int i4), .val (.int (2 : Int32)), .val (.ref bs24), .val (.ref bs25), .unset, .unset, .unset, .unset] [(.ref bs26)])
    refine C26.astore at_36 rfl rfl (L' := #[.val (.int i0), .val (.int i1), .val (.int i2), .val (.int i3), .val (.int i4), .val (.int (2 : Int32)), .val (.ref bs24), .val (.ref bs25), .val (.ref bs26), .unset, .unset, .unset]) rfl ?_
    refine C26.iload at_38 rfl rfl ?_
    refine C26.newrefs (hw _ (List.mem_of_getElem? (i := 26) rfl)) (hw _ (List.mem_of_getElem? (i := 27) rfl)) 2 (by decide) (by decide) (by decide) (by decide) (by decide) (ad := "[Ljava/lang/String;") rfl at_40 rfl (fun T27 h27 b27 k27 C27 e27 g_b27 E27 V_b27 E_b27 O_k27 => ?_)
    have ne_bs24_b27 : bs24 ≠ b27 := Nat.ne_of_lt (Nat.lt_of_lt_of_eq E_bs24.lt e27.symm)
    have ne_bs25_b27 : bs25 ≠ b27 := Nat.ne_of_lt (Nat.lt_of_lt_of_eq E_bs25.lt e27.symm)
    have ne_bs26_b27 : bs26 ≠ b27 := Nat.ne_of_lt (Nat.lt_of_lt_of_eq E_bs26.lt e27.symm)
    have S_COMPACT_STRINGS := S_COMPACT_STRINGS.ext E27
    have S_DEFAULTCAPACITY_EMPTY_ELEMENTDATA := S_DEFAULTCAPACITY_EMPTY_ELEMENTDATA.ext E27
    have E_bs24 := E_bs24.ext E27
    have E_bs25 := E_bs25.ext E27
    have E_bs26 := E_bs26.ext E27
    have V_b27 : Arv Z h27 b27 k27 (.object "java/lang/String") (2 : Int32) ([.null, .null] : List Value) .null := V_b27
    refine C27.astore at_43 rfl rfl (L' := #[.val (.int i0), .val (.int i1), .val (.int i2), .val (.int i3), .val (.int i4), .val (.int (2 : Int32)), .val (.ref bs24), .val (.ref bs25), .val (.ref bs26), .val (.ref b27), .unset, .unset]) rfl ?_
    refine C27.iload at_45 rfl rfl ?_
    refine C27.if_le at_47 (by decide) (by decide : _ = 56) rfl (fun q => absurd (by decide) q) (fun _ => ?_)
    refine C27.aload at_50 rfl rfl rfl ?_
    refine C27.iconst (0 : Int32) at_52 rfl rfl ?_
    refine C27.aload at_53 rfl rfl rfl ?_
    refine C27.aastore V_b27 O_k27 (Ins.self E_bs24) ⟨by decide, by decide⟩ (Nat.le_of_ble_eq_true rfl) g_b27 at_55 rfl (fun T28 h28 C28 W28 Vn28 => ?_)
    have S_COMPACT_STRINGS := S_COMPACT_STRINGS.wr W28
    have S_DEFAULTCAPACITY_EMPTY_ELEMENTDATA := S_DEFAULTCAPACITY_EMPTY_ELEMENTDATA.wr W28
    have E_bs24 := E_bs24.wr W28
    have E_bs25 := E_bs25.wr W28
    have E_bs26 := E_bs26.wr W28
    have E_b27 := E_b27.wr W28
    have V_b27 : Arv Z h28 b27 k27 (.object "java/lang/String") (2 : Int32) [(.ref bs24), .null] .null := Vn28
    refine C28.iload at_56 rfl rfl ?_
    refine C28.iconst (1 : Int32) at_58 rfl rfl ?_
    refine C28.icmp_le at_59 (by decide) (by decide : _ = 68) rfl (fun q => absurd (by decide) q) (fun _ => ?_)
    refine C28.aload at_62 rfl rfl rfl ?_
    refine C28.iconst (1 : Int32) at_64 rfl rfl ?_
    refine C28.aload at_65 rfl rfl rfl ?_
    refine C28.aastore V_b27 O_k27 (Ins.self E_bs25) ⟨by decide, by decide⟩ (Nat.le_of_ble_eq_true rfl) g_b27 at_67 rfl (fun T29 h29 C29 W29 Vn29 => ?_)
    have S_COMPACT_STRINGS := S_COMPACT_STRINGS.wr W29
    have S_DEFAULTCAPACITY_EMPTY_ELEMENTDATA := S_DEFAULTCAPACITY_EMPTY_ELEMENTDATA.wr W29
    have E_bs24 := E_bs24.wr W29
    have E_bs25 := E_bs25.wr W29
    have E_bs26 := E_bs26.wr W29
    have E_b27 := E_b27.wr W29
    have V_b27 : Arv Z h29 b27 k27 (.object "java/lang/String") (2 : Int32) [(.ref bs24), (.ref bs25)] .null := Vn29
    refine C29.iload at_68 rfl rfl ?_
    refine C29.iconst (2 : Int32) at_70 rfl rfl ?_
    refine C29.icmp_le at_71 (by decide) (by decide : _ = 80) rfl (fun _ => ?_) (fun q => absurd q (by decide))
    refine C29.new (hw _ (List.mem_of_getElem? (i := 28) rfl)) (hw _ (List.mem_of_getElem? (i := 29) rfl)) (hw _ (List.mem_of_getElem? (i := 30) rfl)) at_80 rfl (by decide) (by decide) (fun T30 h30 b30 C30 e30 g_b30 E30 E_b30 D30 => ?_)
    have ne_bs24_b30 : bs24 ≠ b30 := Nat.ne_of_lt (Nat.lt_of_lt_of_eq E_bs24.lt e30.symm)
    have ne_bs25_b30 : bs25 ≠ b30 := Nat.ne_of_lt (Nat.lt_of_lt_of_eq E_bs25.lt e30.symm)
    have ne_bs26_b30 : bs26 ≠ b30 := Nat.ne_of_lt (Nat.lt_of_lt_of_eq E_bs26.lt e30.symm)
    have ne_b27_b30 : b27 ≠ b30 := Nat.ne_of_lt (Nat.lt_of_lt_of_eq V_b27.lt e30.symm)
    have S_COMPACT_STRINGS := S_COMPACT_STRINGS.ext E30
    have S_DEFAULTCAPACITY_EMPTY_ELEMENTDATA := S_DEFAULTCAPACITY_EMPTY_ELEMENTDATA.ext E30
    have E_bs24 := E_bs24.ext E30
    have E_bs25 := E_bs25.ext E30
    have E_bs26 := E_bs26.ext E30
    have V_b27 := V_b27.ext E30
    have E_b27 := E_b27.ext E30
    have F_b30_operands : Fld Z h30 b30 "com/example/bouncer/bouncer/cli/Arguments" "operands" "Ljava/util/List;" .null := D30 (Or.inr (hw _ (List.mem_of_getElem? (i := 64) rfl))) (ty := (.object "java/util/List")) (by decide)
    have F_b30_command : Fld Z h30 b30 "com/example/bouncer/bouncer/cli/Arguments" "command" "Ljava/lang/String;" .null := D30 (Or.inr (hw _ (List.mem_of_getElem? (i := 66) rfl))) (ty := (.object "java/lang/String")) (by decide)
    have F_b30_usage : Fld Z h30 b30 "com/example/bouncer/bouncer/cli/Arguments" "usage" "Ljava/lang/String;" .null := D30 (Or.inr (hw _ (List.mem_of_getElem? (i := 68) rfl))) (ty := (.object "java/lang/String")) (by decide)
    have F_b30_arguments : Fld Z h30 b30 "com/example/bouncer/bouncer/cli/Arguments" "arguments" "[Ljava/lang/String;" .null := D30 (Or.inr (hw _ (List.mem_of_getElem? (i := 79) rfl))) (ty := (.array (.object "java/lang/String"))) (by decide)
    have F_b30_maxOperands : Fld Z h30 b30 "com/example/bouncer/bouncer/cli/Arguments" "maxOperands" "I" (.int (0 : Int32)) := D30 (Or.inr (hw _ (List.mem_of_getElem? (i := 81) rfl))) (ty := .int) (by decide)
    have F_b30_next : Fld Z h30 b30 "com/example/bouncer/bouncer/cli/Arguments" "next" "I" (.int (0 : Int32)) := D30 (Or.inl (hw _ (List.mem_of_getElem? (i := 88) rfl))) (ty := .int) (by decide)
    refine C30.dup at_83 rfl rfl ?_
    refine C30.ldcStr (hw _ (List.mem_of_getElem? (i := 31) rfl)) (own_wS hw) 4 (by decide) (by decide) (by decide) (by decide) at_84 rfl (fun s31 T31 h31 C31 E31 => ?_)
    have S_COMPACT_STRINGS := S_COMPACT_STRINGS.ext E31
    have S_DEFAULTCAPACITY_EMPTY_ELEMENTDATA := S_DEFAULTCAPACITY_EMPTY_ELEMENTDATA.ext E31
    have E_bs24 := E_bs24.ext E31
    have E_bs25 := E_bs25.ext E31
    have E_bs26 := E_bs26.ext E31
    have V_b27 := V_b27.ext E31
    have E_b27 := E_b27.ext E31
    have E_b30 := E_b30.ext E31
    have F_b30_operands := F_b30_operands.ext E31
    have F_b30_command := F_b30_command.ext E31
    have F_b30_usage := F_b30_usage.ext E31
    have F_b30_arguments := F_b30_arguments.ext E31
    have F_b30_maxOperands := F_b30_maxOperands.ext E31
    have F_b30_next := F_b30_next.ext E31
    refine C31.ldcStr (hw _ (List.mem_of_getElem? (i := 34) rfl)) (own_wS hw) 4 (by decide) (by decide) (by decide) (by decide) at_86 rfl (fun s32 T32 h32 C32 E32 => ?_)
    have S_COMPACT_STRINGS := S_COMPACT_STRINGS.ext E32
    have S_DEFAULTCAPACITY_EMPTY_ELEMENTDATA := S_DEFAULTCAPACITY_EMPTY_ELEMENTDATA.ext E32
    have E_bs24 := E_bs24.ext E32
    have E_bs25 := E_bs25.ext E32
    have E_bs26 := E_bs26.ext E32
    have V_b27 := V_b27.ext E32
    have E_b27 := E_b27.ext E32
    have E_b30 := E_b30.ext E32
    have F_b30_operands := F_b30_operands.ext E32
    have F_b30_command := F_b30_command.ext E32
    have F_b30_usage := F_b30_usage.ext E32
    have F_b30_arguments := F_b30_arguments.ext E32
    have F_b30_maxOperands := F_b30_maxOperands.ext E32
    have F_b30_next := F_b30_next.ext E32
    refine C32.aload at_88 rfl rfl rfl ?_
    refine C32.iload at_90 rfl rfl ?_
    refine C32.callN rfl (hw _ (List.mem_of_getElem? (i := 35) rfl)) (hw _ (List.mem_of_getElem? (i := 36) rfl)) (hw _ (List.mem_of_getElem? (i := 30) rfl)) (hw _ (List.mem_of_getElem? (i := 37) rfl)) (by decide) (a := b30) (rm6 l Z a0 hw b30 s31 s32 b27 i4 de .null .null .null .null (.int (0 : Int32)) k27 (2 : Int32) [(.ref bs24), (.ref bs25)] .null h32 n0 C32.size E_b30 F_b30_operands F_b30_command F_b30_usage F_b30_arguments F_b30_maxOperands F_b30_next g_b30 S_DEFAULTCAPACITY_EMPTY_ELEMENTDATA E_b27 V_b27 (by decide)) (argsL := [(.ref s31), (.ref s32), (.ref b27), (.int i4)]) pd6 rfl 1 (by decide) (by decide) (by decide) (by decide) (rest := [(.ref b30)]) rfl rfl (Nat.le_of_eq rfl) at_92 rfl (fun v33 T33 h33 C33 qq33 => ?_)
    obtain ⟨bc33, rfl, K33, p33_0, p33_1, p33_2, p33_3, p33_4, p33_5⟩ := qq33
    have S_COMPACT_STRINGS := own_stak S_COMPACT_STRINGS K33 (allS (own_plainE E_b30) (all0))
    have S_DEFAULTCAPACITY_EMPTY_ELEMENTDATA := own_stak S_DEFAULTCAPACITY_EMPTY_ELEMENTDATA K33 (allS (own_plainE E_b30) (all0))
    have E_bs24 := E_bs24.keep K33
    have E_bs25 := E_bs25.keep K33
    have E_bs26 := E_bs26.keep K33
    have V_b27 := V_b27.keep K33 (ninS ne_b27_b30 nin0)
    have E_b27 := E_b27.keep K33
    have E_b30 := E_b30.keep K33
    have E_b30 := p33_0
    have F_b30_arguments := p33_1
    have F_b30_next := p33_2
    have E_bc33 := p33_3
    have V_bc33 := p33_4
    have g_bc33 := p33_5
    show Go p e below F n0 (fun v _ => v = some (.int (1 : Int32))) T33 (mkF m 95 #[.val (.int i0), .val (.int i1), .val (.int i2), .val (.int i3), .val (.int i4), .val (.int (2 : Int32)), .val (.ref bs24), .val (.ref bs25), .val (.ref bs26), .val (.ref b27), .unset, .unset] [(.ref b30)])
    refine C33.astore at_95 rfl rfl (L' := #[.val (.int i0), .val (.int i1), .val (.int i2), .val (.int i3), .val (.int i4), .val (.int (2 : Int32)), .val (.ref bs24), .val (.ref bs25), .val (.ref bs26), .val (.ref b27), .val (.ref b30), .unset]) rfl ?_
    refine C33.iconst (1 : Int32) at_97 rfl rfl ?_
    refine C33.istore at_98 rfl (L' := #[.val (.int i0), .val (.int i1), .val (.int i2), .val (.int i3), .val (.int i4), .val (.int (2 : Int32)), .val (.ref bs24), .val (.ref bs25), .val (.ref bs26), .val (.ref b27), .val (.ref b30), .val (.int (1 : Int32))]) rfl ?_
    refine C33.iload at_100 rfl rfl ?_
    refine C33.if_le at_102 (by decide) (by decide : _ = 150) rfl (fun q => absurd (by decide) q) (fun _ => ?_)
    refine C33.iload at_105 rfl rfl ?_
    refine C33.if_eq at_107 (by decide) (by decide : _ = 122) rfl (fun q => absurd q (by decide)) (fun _ => ?_)
    refine C33.aload at_110 rfl rfl rfl ?_
    refine C33.callV (hw _ (List.mem_of_getElem? (i := 82) rfl)) (hw _ (List.mem_of_getElem? (i := 83) rfl)) (hw _ (List.mem_of_getElem? (i := 85) rfl)) (hw _ (List.mem_of_getElem? (i := 84) rfl)) (hw _ (List.mem_of_getElem? (i := 30) rfl)) (hw _ (List.mem_of_getElem? (i := 86) rfl)) E_b30 (by decide) (a := b30) (rm10 l Z a0 hw b30 bc33 (0 : Int32) k27 (2 : Int32) [(.ref bs24), (.ref bs25)] .null h33 n0 C33.size F_b30_arguments F_b30_next V_bc33) (argsL := []) pd10 rfl 0 (by decide) (by decide) (by decide) (by decide) (rest := []) rfl rfl (Nat.le_of_eq rfl) at_112 rfl (fun v34 T34 h34 C34 qq34 => ?_)
    obtain ⟨rfl, hh34⟩ := qq34
    have hh34 := hh34.symm; subst hh34
    show Go p e below F n0 (fun v _ => v = some (.int (1 : Int32))) T34 (mkF m 115 #[.val (.int i0), .val (.int i1), .val (.int i2), .val (.int i3), .val (.int i4), .val (.int (2 : Int32)), .val (.ref bs24), .val (.ref bs25), .val (.ref bs26), .val (.ref b27), .val (.ref b30), .val (.int (1 : Int32))] [(.int (f10 (0 : Int32) (2 : Int32)))])
    refine C34.if_eq at_115 (by decide) (by decide : _ = 122) rfl (fun q => absurd q (by decide)) (fun _ => ?_)
    refine C34.iconst (1 : Int32) at_118 rfl rfl ?_
    refine C34.goto at_119 (by decide) (by decide : _ = 123) ?_
    refine C34.istore at_123 rfl (L' := #[.val (.int i0), .val (.int i1), .val (.int i2), .val (.int i3), .val (.int i4), .val (.int (2 : Int32)), .val (.ref bs24), .val (.ref bs25), .val (.ref bs26), .val (.ref b27), .val (.ref b30), .val (.int (1 : Int32))]) rfl ?_
    refine C34.iload at_125 rfl rfl ?_
    refine C34.if_eq at_127 (by decide) (by decide : _ = 147) rfl (fun q => absurd q (by decide)) (fun _ => ?_)
    refine C34.aload at_130 rfl rfl rfl ?_
    refine C34.aload at_132 rfl rfl rfl ?_
    refine C34.callV (hw _ (List.mem_of_getElem? (i := 89) rfl)) (hw _ (List.mem_of_getElem? (i := 90) rfl)) (hw _ (List.mem_of_getElem? (i := 92) rfl)) (hw _ (List.mem_of_getElem? (i := 91) rfl)) (hw _ (List.mem_of_getElem? (i := 30) rfl)) (hw _ (List.mem_of_getElem? (i := 93) rfl)) E_b30 (by decide) (a := b30) (rm11 l Z a0 hw b30 bc33 (0 : Int32) k27 (2 : Int32) [(.ref bs24), (.ref bs25)] .null bs24 h33 n0 C34.size E_b30 F_b30_arguments F_b30_next V_bc33 E_bc33 g_b30 ⟨by decide, by decide⟩ rfl) (argsL := []) pd11 rfl 1 (by decide) (by decide) (by decide) (by decide) (rest := [(.ref bs24)]) rfl rfl (Nat.le_of_eq rfl) at_134 rfl (fun v35 T35 h35 C35 qq35 => ?_)
    obtain ⟨rfl, K35, p35_0, p35_1, p35_2⟩ := qq35
    have ne_bc33_b30 : bc33 ≠ b30 := (ne_exa E_bc33 E_b30 (by decide))
    have S_COMPACT_STRINGS := own_stak S_COMPACT_STRINGS K35 (allS (own_plainE E_b30) (all0))
    have S_DEFAULTCAPACITY_EMPTY_ELEMENTDATA := own_stak S_DEFAULTCAPACITY_EMPTY_ELEMENTDATA K35 (allS (own_plainE E_b30) (all0))
    have E_bs24 := E_bs24.keep K35
    have E_bs25 := E_bs25.keep K35
    have E_bs26 := E_bs26.keep K35
    have V_b27 := V_b27.keep K35 (ninS ne_b27_b30 nin0)
    have E_b27 := E_b27.keep K35
    have E_b30 := E_b30.keep K35
    have E_bc33 := E_bc33.keep K35
    have V_bc33 := V_bc33.keep K35 (ninS ne_bc33_b30 nin0)
    have E_b30 := p35_0
    have F_b30_arguments := p35_1
    have F_b30_next := p35_2
    show Go p e below F n0 (fun v _ => v = some (.int (1 : Int32))) T35 (mkF m 137 #[.val (.int i0), .val (.int i1), .val (.int i2), .val (.int i3), .val (.int i4), .val (.int (2 : Int32)), .val (.ref bs24), .val (.ref bs25), .val (.ref bs26), .val (.ref b27), .val (.ref b30), .val (.int (1 : Int32))] [(.ref bs24), (.ref bs24)])
    refine C35.callV (hw _ (List.mem_of_getElem? (i := 94) rfl)) (hw _ (List.mem_of_getElem? (i := 95) rfl)) (hw _ (List.mem_of_getElem? (i := 97) rfl)) (hw _ (List.mem_of_getElem? (i := 96) rfl)) (hw _ (List.mem_of_getElem? (i := 2) rfl)) (hw _ (List.mem_of_getElem? (i := 98) rfl)) E_bs24 (by decide) (a := bs24) (rm12 l Z a0 hw bs24 bs24 h35 n0 C35.size rfl) (argsL := [(.ref bs24)]) pd12 rfl 0 (by decide) (by decide) (by decide) (by decide) (rest := []) rfl rfl (Nat.le_of_eq rfl) at_137 rfl (fun v36 T36 h36 C36 qq36 => ?_)
    obtain ⟨rfl, hh36⟩ := qq36
    have hh36 := hh36.symm; subst hh36
    show Go p e below F n0 (fun v _ => v = some (.int (1 : Int32))) T36 (mkF m 140 #[.val (.int i0), .val (.int i1), .val (.int i2), .val (.int i3), .val (.int i4), .val (.int (2 : Int32)), .val (.ref bs24), .val (.ref bs25), .val (.ref bs26), .val (.ref b27), .val (.ref b30), .val (.int (1 : Int32))] [(.int (1 : Int32))])
    refine C36.if_eq at_140 (by decide) (by decide : _ = 147) rfl (fun q => absurd q (by decide)) (fun _ => ?_)
    refine C36.iconst (1 : Int32) at_143 rfl rfl ?_
    refine C36.goto at_144 (by decide) (by decide : _ = 148) ?_
    refine C36.istore at_148 rfl (L' := #[.val (.int i0), .val (.int i1), .val (.int i2), .val (.int i3), .val (.int i4), .val (.int (2 : Int32)), .val (.ref bs24), .val (.ref bs25), .val (.ref bs26), .val (.ref b27), .val (.ref b30), .val (.int (1 : Int32))]) rfl ?_
    refine C36.iload at_150 rfl rfl ?_
    refine C36.iconst (1 : Int32) at_152 rfl rfl ?_
    refine C36.icmp_le at_153 (by decide) (by decide : _ = 201) rfl (fun q => absurd (by decide) q) (fun _ => ?_)
    refine C36.iload at_156 rfl rfl ?_
    refine C36.if_eq at_158 (by decide) (by decide : _ = 173) rfl (fun q => absurd q (by decide)) (fun _ => ?_)
    refine C36.aload at_161 rfl rfl rfl ?_
    refine C36.callV (hw _ (List.mem_of_getElem? (i := 82) rfl)) (hw _ (List.mem_of_getElem? (i := 83) rfl)) (hw _ (List.mem_of_getElem? (i := 85) rfl)) (hw _ (List.mem_of_getElem? (i := 84) rfl)) (hw _ (List.mem_of_getElem? (i := 30) rfl)) (hw _ (List.mem_of_getElem? (i := 86) rfl)) E_b30 (by decide) (a := b30) (rm10 l Z a0 hw b30 bc33 ((0 : Int32) + (1 : Int32)) k27 (2 : Int32) [(.ref bs24), (.ref bs25)] .null h35 n0 C36.size F_b30_arguments F_b30_next V_bc33) (argsL := []) pd10 rfl 0 (by decide) (by decide) (by decide) (by decide) (rest := []) rfl rfl (Nat.le_of_eq rfl) at_163 rfl (fun v37 T37 h37 C37 qq37 => ?_)
    obtain ⟨rfl, hh37⟩ := qq37
    have hh37 := hh37.symm; subst hh37
    show Go p e below F n0 (fun v _ => v = some (.int (1 : Int32))) T37 (mkF m 166 #[.val (.int i0), .val (.int i1), .val (.int i2), .val (.int i3), .val (.int i4), .val (.int (2 : Int32)), .val (.ref bs24), .val (.ref bs25), .val (.ref bs26), .val (.ref b27), .val (.ref b30), .val (.int (1 : Int32))] [(.int (f10 ((0 : Int32) + (1 : Int32)) (2 : Int32)))])
    refine C37.if_eq at_166 (by decide) (by decide : _ = 173) rfl (fun q => absurd q (by decide)) (fun _ => ?_)
    refine C37.iconst (1 : Int32) at_169 rfl rfl ?_
    refine C37.goto at_170 (by decide) (by decide : _ = 174) ?_
    refine C37.istore at_174 rfl (L' := #[.val (.int i0), .val (.int i1), .val (.int i2), .val (.int i3), .val (.int i4), .val (.int (2 : Int32)), .val (.ref bs24), .val (.ref bs25), .val (.ref bs26), .val (.ref b27), .val (.ref b30), .val (.int (1 : Int32))]) rfl ?_
    refine C37.iload at_176 rfl rfl ?_
    refine C37.if_eq at_178 (by decide) (by decide : _ = 198) rfl (fun q => absurd q (by decide)) (fun _ => ?_)
    refine C37.aload at_181 rfl rfl rfl ?_
    refine C37.aload at_183 rfl rfl rfl ?_
    refine C37.callV (hw _ (List.mem_of_getElem? (i := 89) rfl)) (hw _ (List.mem_of_getElem? (i := 90) rfl)) (hw _ (List.mem_of_getElem? (i := 92) rfl)) (hw _ (List.mem_of_getElem? (i := 91) rfl)) (hw _ (List.mem_of_getElem? (i := 30) rfl)) (hw _ (List.mem_of_getElem? (i := 93) rfl)) E_b30 (by decide) (a := b30) (rm11 l Z a0 hw b30 bc33 ((0 : Int32) + (1 : Int32)) k27 (2 : Int32) [(.ref bs24), (.ref bs25)] .null bs25 h35 n0 C37.size E_b30 F_b30_arguments F_b30_next V_bc33 E_bc33 g_b30 ⟨by decide, by decide⟩ rfl) (argsL := []) pd11 rfl 1 (by decide) (by decide) (by decide) (by decide) (rest := [(.ref bs25)]) rfl rfl (Nat.le_of_eq rfl) at_185 rfl (fun v38 T38 h38 C38 qq38 => ?_)
    obtain ⟨rfl, K38, p38_0, p38_1, p38_2⟩ := qq38
    have S_COMPACT_STRINGS := own_stak S_COMPACT_STRINGS K38 (allS (own_plainE E_b30) (all0))
    have S_DEFAULTCAPACITY_EMPTY_ELEMENTDATA := own_stak S_DEFAULTCAPACITY_EMPTY_ELEMENTDATA K38 (allS (own_plainE E_b30) (all0))
    have E_bs24 := E_bs24.keep K38
    have E_bs25 := E_bs25.keep K38
    have E_bs26 := E_bs26.keep K38
    have V_b27 := V_b27.keep K38 (ninS ne_b27_b30 nin0)
    have E_b27 := E_b27.keep K38
    have E_b30 := E_b30.keep K38
    have E_bc33 := E_bc33.keep K38
    have V_bc33 := V_bc33.keep K38 (ninS ne_bc33_b30 nin0)
    have E_b30 := p38_0
    have F_b30_arguments := p38_1
    have F_b30_next := p38_2
    show Go p e below F n0 (fun v _ => v = some (.int (1 : Int32))) T38 (mkF m 188 #[.val (.int i0), .val (.int i1), .val (.int i2), .val (.int i3), .val (.int i4), .val (.int (2 : Int32)), .val (.ref bs24), .val (.ref bs25), .val (.ref bs26), .val (.ref b27), .val (.ref b30), .val (.int (1 : Int32))] [(.ref bs25), (.ref bs25)])
    refine C38.callV (hw _ (List.mem_of_getElem? (i := 94) rfl)) (hw _ (List.mem_of_getElem? (i := 95) rfl)) (hw _ (List.mem_of_getElem? (i := 97) rfl)) (hw _ (List.mem_of_getElem? (i := 96) rfl)) (hw _ (List.mem_of_getElem? (i := 2) rfl)) (hw _ (List.mem_of_getElem? (i := 98) rfl)) E_bs25 (by decide) (a := bs25) (rm12 l Z a0 hw bs25 bs25 h38 n0 C38.size rfl) (argsL := [(.ref bs25)]) pd12 rfl 0 (by decide) (by decide) (by decide) (by decide) (rest := []) rfl rfl (Nat.le_of_eq rfl) at_188 rfl (fun v39 T39 h39 C39 qq39 => ?_)
    obtain ⟨rfl, hh39⟩ := qq39
    have hh39 := hh39.symm; subst hh39
    show Go p e below F n0 (fun v _ => v = some (.int (1 : Int32))) T39 (mkF m 191 #[.val (.int i0), .val (.int i1), .val (.int i2), .val (.int i3), .val (.int i4), .val (.int (2 : Int32)), .val (.ref bs24), .val (.ref bs25), .val (.ref bs26), .val (.ref b27), .val (.ref b30), .val (.int (1 : Int32))] [(.int (1 : Int32))])
    refine C39.if_eq at_191 (by decide) (by decide : _ = 198) rfl (fun q => absurd q (by decide)) (fun _ => ?_)
    refine C39.iconst (1 : Int32) at_194 rfl rfl ?_
    refine C39.goto at_195 (by decide) (by decide : _ = 199) ?_
    refine C39.istore at_199 rfl (L' := #[.val (.int i0), .val (.int i1), .val (.int i2), .val (.int i3), .val (.int i4), .val (.int (2 : Int32)), .val (.ref bs24), .val (.ref bs25), .val (.ref bs26), .val (.ref b27), .val (.ref b30), .val (.int (1 : Int32))]) rfl ?_
    refine C39.iload at_201 rfl rfl ?_
    refine C39.iconst (2 : Int32) at_203 rfl rfl ?_
    refine C39.icmp_le at_204 (by decide) (by decide : _ = 252) rfl (fun _ => ?_) (fun q => absurd q (by decide))
    refine C39.iload at_252 rfl rfl ?_
    refine C39.if_eq at_254 (by decide) (by decide : _ = 269) rfl (fun q => absurd q (by decide)) (fun _ => ?_)
    refine C39.aload at_257 rfl rfl rfl ?_
    refine C39.callV (hw _ (List.mem_of_getElem? (i := 82) rfl)) (hw _ (List.mem_of_getElem? (i := 83) rfl)) (hw _ (List.mem_of_getElem? (i := 85) rfl)) (hw _ (List.mem_of_getElem? (i := 84) rfl)) (hw _ (List.mem_of_getElem? (i := 30) rfl)) (hw _ (List.mem_of_getElem? (i := 86) rfl)) E_b30 (by decide) (a := b30) (rm10 l Z a0 hw b30 bc33 (((0 : Int32) + (1 : Int32)) + (1 : Int32)) k27 (2 : Int32) [(.ref bs24), (.ref bs25)] .null h38 n0 C39.size F_b30_arguments F_b30_next V_bc33) (argsL := []) pd10 rfl 0 (by decide) (by decide) (by decide) (by decide) (rest := []) rfl rfl (Nat.le_of_eq rfl) at_259 rfl (fun v40 T40 h40 C40 qq40 => ?_)
    obtain ⟨rfl, hh40⟩ := qq40
    have hh40 := hh40.symm; subst hh40
    show Go p e below F n0 (fun v _ => v = some (.int (1 : Int32))) T40 (mkF m 262 #[.val (.int i0), .val (.int i1), .val (.int i2), .val (.int i3), .val (.int i4), .val (.int (2 : Int32)), .val (.ref bs24), .val (.ref bs25), .val (.ref bs26), .val (.ref b27), .val (.ref b30), .val (.int (1 : Int32))] [(.int (f10 (((0 : Int32) + (1 : Int32)) + (1 : Int32)) (2 : Int32)))])
    refine C40.if_ne at_262 (by decide) (by decide : _ = 269) rfl (fun q => absurd (by decide) q) (fun _ => ?_)
    refine C40.iconst (1 : Int32) at_265 rfl rfl ?_
    refine C40.goto at_266 (by decide) (by decide : _ = 270) ?_
    refine C40.istore at_270 rfl (L' := #[.val (.int i0), .val (.int i1), .val (.int i2), .val (.int i3), .val (.int i4), .val (.int (2 : Int32)), .val (.ref bs24), .val (.ref bs25), .val (.ref bs26), .val (.ref b27), .val (.ref b30), .val (.int (1 : Int32))]) rfl ?_
    refine C40.iload at_272 rfl rfl ?_
    exact C40.retN (t := .boolean) at_274 rfl (by simp) (by decide) (by decide) (w := (1 : Int32)) rfl rfl
  · subst e
    refine C0.iloadN at_5 rfl rfl ?_
    refine C0.sipush (255 : Int32) at_6 rfl rfl ?_
    refine C0.iand at_9 rfl ?_
    refine C0.i2c at_10 rfl ?_
    refine C0.callS (hw _ (List.mem_of_getElem? (i := 0) rfl)) (hw _ (List.mem_of_getElem? (i := 1) rfl)) (hw _ (List.mem_of_getElem? (i := 2) rfl)) (hw _ (List.mem_of_getElem? (i := 3) rfl)) (by decide) (rm1 l Z a0 hw ((i1 &&& (255 : Int32)).toUInt32.toUInt16.toUInt32.toInt32) cs h0 n0 C0.size S_COMPACT_STRINGS hcs (own_pre0 i0 i1 i2 i3 i4 cs de hcs)) (argsL := [(.int ((i1 &&& (255 : Int32)).toUInt32.toUInt16.toUInt32.toInt32))]) pd1 rfl 0 (by decide) (by decide) (by decide) (by decide) (rest := []) rfl rfl (Nat.le_of_eq rfl) at_11 rfl (fun v41 T41 h41 C41 qq41 => ?_)
    obtain ⟨bs41, rfl, K41, p41_0, p41_1⟩ := qq41
    have K41 := ext_keep K41
    have S_COMPACT_STRINGS := S_COMPACT_STRINGS.ext K41
    have S_DEFAULTCAPACITY_EMPTY_ELEMENTDATA := S_DEFAULTCAPACITY_EMPTY_ELEMENTDATA.ext K41
    have E_bs41 := p41_0
    have g_bs41 := p41_1
    show Go p e below F n0 (fun v _ => v = some (.int (1 : Int32))) T41 (mkF m 14 #[.val (.int i0), .val (.int i1), .val (.int i2), .val (.int i3), .val (.int i4), .val (.int (3 : Int32)), .unset, .unset, .unset, .unset, .unset, .unset] [(.ref bs41)])
    refine C41.astore at_14 rfl rfl (L' := #[.val (.int i0), .val (.int i1), .val (.int i2), .val (.int i3), .val (.int i4), .val (.int (3 : Int32)), .val (.ref bs41), .unset, .unset, .unset, .unset, .unset]) rfl ?_
    refine C41.iloadN at_16 rfl rfl ?_
    refine C41.sipush (255 : Int32) at_17 rfl rfl ?_
    refine C41.iand at_20 rfl ?_
    refine C41.i2c at_21 rfl ?_
    refine C41.callS (hw _ (List.mem_of_getElem? (i := 0) rfl)) (hw _ (List.mem_of_getElem? (i := 1) rfl)) (hw _ (List.mem_of_getElem? (i := 2) rfl)) (hw _ (List.mem_of_getElem? (i := 3) rfl)) (by decide) (rm1 l Z a0 hw ((i2 &&& (255 : Int32)).toUInt32.toUInt16.toUInt32.toInt32) cs h41 n0 C41.size S_COMPACT_STRINGS hcs (own_pre1 i0 i1 i2 i3 i4 cs de hcs)) (argsL := [(.int ((i2 &&& (255 : Int32)).toUInt32.toUInt16.toUInt32.toInt32))]) pd1 rfl 0 (by decide) (by decide) (by decide) (by decide) (rest := []) rfl rfl (Nat.le_of_eq rfl) at_22 rfl (fun v42 T42 h42 C42 qq42 => ?_)
    obtain ⟨bs42, rfl, K42, p42_0, p42_1⟩ := qq42
    have K42 := ext_keep K42
    have S_COMPACT_STRINGS := S_COMPACT_STRINGS.ext K42
    have S_DEFAULTCAPACITY_EMPTY_ELEMENTDATA := S_DEFAULTCAPACITY_EMPTY_ELEMENTDATA.ext K42
    have E_bs41 := E_bs41.ext K42
    have E_bs42 := p42_0
    have g_bs42 := p42_1
    show Go p e below F n0 (fun v _ => v = some (.int (1 : Int32))) T42 (mkF m 25 #[.val (.int i0), .val (.int i1), .val (.int i2), .val (.int i3), .val (.int i4), .val (.int (3 : Int32)), .val (.ref bs41), .unset, .unset, .unset, .unset, .unset] [(.ref bs42)])
    refine C42.astore at_25 rfl rfl (L' := #[.val (.int i0), .val (.int i1), .val (.int i2), .val (.int i3), .val (.int i4), .val (.int (3 : Int32)), .val (.ref bs41), .val (.ref bs42), .unset, .unset, .unset, .unset]) rfl ?_
    refine C42.iloadN at_27 rfl rfl ?_
    refine C42.sipush (255 : Int32) at_28 rfl rfl ?_
    refine C42.iand at_31 rfl ?_
    refine C42.i2c at_32 rfl ?_
    refine C42.callS (hw _ (List.mem_of_getElem? (i := 0) rfl)) (hw _ (List.mem_of_getElem? (i := 1) rfl)) (hw _ (List.mem_of_getElem? (i := 2) rfl)) (hw _ (List.mem_of_getElem? (i := 3) rfl)) (by decide) (rm1 l Z a0 hw ((i3 &&& (255 : Int32)).toUInt32.toUInt16.toUInt32.toInt32) cs h42 n0 C42.size S_COMPACT_STRINGS hcs (own_pre2 i0 i1 i2 i3 i4 cs de hcs)) (argsL := [(.int ((i3 &&& (255 : Int32)).toUInt32.toUInt16.toUInt32.toInt32))]) pd1 rfl 0 (by decide) (by decide) (by decide) (by decide) (rest := []) rfl rfl (Nat.le_of_eq rfl) at_33 rfl (fun v43 T43 h43 C43 qq43 => ?_)
    obtain ⟨bs43, rfl, K43, p43_0, p43_1⟩ := qq43
    have K43 := ext_keep K43
    have S_COMPACT_STRINGS := S_COMPACT_STRINGS.ext K43
    have S_DEFAULTCAPACITY_EMPTY_ELEMENTDATA := S_DEFAULTCAPACITY_EMPTY_ELEMENTDATA.ext K43
    have E_bs41 := E_bs41.ext K43
    have E_bs42 := E_bs42.ext K43
    have E_bs43 := p43_0
    have g_bs43 := p43_1
    show Go p e below F n0 (fun v _ => v = some (.int (1 : Int32))) T43 (mkF m 36 #[.val (.int i0), .val (.int i1), .val (.int i2), .val (.int i3), .val (.int i4), .val (.int (3 : Int32)), .val (.ref bs41), .val (.ref bs42), .unset, .unset, .unset, .unset] [(.ref bs43)])
    refine C43.astore at_36 rfl rfl (L' := #[.val (.int i0), .val (.int i1), .val (.int i2), .val (.int i3), .val (.int i4), .val (.int (3 : Int32)), .val (.ref bs41), .val (.ref bs42), .val (.ref bs43), .unset, .unset, .unset]) rfl ?_
    refine C43.iload at_38 rfl rfl ?_
    refine C43.newrefs (hw _ (List.mem_of_getElem? (i := 26) rfl)) (hw _ (List.mem_of_getElem? (i := 27) rfl)) 3 (by decide) (by decide) (by decide) (by decide) (by decide) (ad := "[Ljava/lang/String;") rfl at_40 rfl (fun T44 h44 b44 k44 C44 e44 g_b44 E44 V_b44 E_b44 O_k44 => ?_)
    have ne_bs41_b44 : bs41 ≠ b44 := Nat.ne_of_lt (Nat.lt_of_lt_of_eq E_bs41.lt e44.symm)
    have ne_bs42_b44 : bs42 ≠ b44 := Nat.ne_of_lt (Nat.lt_of_lt_of_eq E_bs42.lt e44.symm)
    have ne_bs43_b44 : bs43 ≠ b44 := Nat.ne_of_lt (Nat.lt_of_lt_of_eq E_bs43.lt e44.symm)
    have S_COMPACT_STRINGS := S_COMPACT_STRINGS.ext E44
    have S_DEFAULTCAPACITY_EMPTY_ELEMENTDATA := S_DEFAULTCAPACITY_EMPTY_ELEMENTDATA.ext E44
    have E_bs41 := E_bs41.ext E44
    have E_bs42 := E_bs42.ext E44
    have E_bs43 := E_bs43.ext E44
    have V_b44 : Arv Z h44 b44 k44 (.object "java/lang/String") (3 : Int32) ([.null, .null, .null] : List Value) .null := V_b44
    refine C44.astore at_43 rfl rfl (L' := #[.val (.int i0), .val (.int i1), .val (.int i2), .val (.int i3), .val (.int i4), .val (.int (3 : Int32)), .val (.ref bs41), .val (.ref bs42), .val (.ref bs43), .val (.ref b44), .unset, .unset]) rfl ?_
    refine C44.iload at_45 rfl rfl ?_
    refine C44.if_le at_47 (by decide) (by decide : _ = 56) rfl (fun q => absurd (by decide) q) (fun _ => ?_)
    refine C44.aload at_50 rfl rfl rfl ?_
    refine C44.iconst (0 : Int32) at_52 rfl rfl ?_
    refine C44.aload at_53 rfl rfl rfl ?_
    refine C44.aastore V_b44 O_k44 (Ins.self E_bs41) ⟨by decide, by decide⟩ (Nat.le_of_ble_eq_true rfl) g_b44 at_55 rfl (fun T45 h45 C45 W45 Vn45 => ?_)
    have S_COMPACT_STRINGS := S_COMPACT_STRINGS.wr W45
    have S_DEFAULTCAPACITY_EMPTY_ELEMENTDATA := S_DEFAULTCAPACITY_EMPTY_ELEMENTDATA.wr W45
    have E_bs41 := E_bs41.wr W45
    have E_bs42 := E_bs42.wr W45
    have E_bs43 := E_bs43.wr W45
    have E_b44 := E_b44.wr W45
    have V_b44 : Arv Z h45 b44 k44 (.object "java/lang/String") (3 : Int32) [(.ref bs41), .null, .null] .null := Vn45
    refine C45.iload at_56 rfl rfl ?_
    refine C45.iconst (1 : Int32) at_58 rfl rfl ?_
    refine C45.icmp_le at_59 (by decide) (by decide : _ = 68) rfl (fun q => absurd (by decide) q) (fun _ => ?_)
    refine C45.aload at_62 rfl rfl rfl ?_
    refine C45.iconst (1 : Int32) at_64 rfl rfl ?_
    refine C45.aload at_65 rfl rfl rfl ?_
    refine C45.aastore V_b44 O_k44 (Ins.self E_bs42) ⟨by decide, by decide⟩ (Nat.le_of_ble_eq_true rfl) g_b44 at_67 rfl (fun T46 h46 C46 W46 Vn46 => ?_)
    have S_COMPACT_STRINGS := S_COMPACT_STRINGS.wr W46
    have S_DEFAULTCAPACITY_EMPTY_ELEMENTDATA := S_DEFAULTCAPACITY_EMPTY_ELEMENTDATA.wr W46
    have E_bs41 := E_bs41.wr W46
    have E_bs42 := E_bs42.wr W46
    have E_bs43 := E_bs43.wr W46
    have E_b44 := E_b44.wr W46
    have V_b44 : Arv Z h46 b44 k44 (.object "java/lang/String") (3 : Int32) [(.ref bs41), (.ref bs42), .null] .null := Vn46
    refine C46.iload at_68 rfl rfl ?_
    refine C46.iconst (2 : Int32) at_70 rfl rfl ?_
    refine C46.icmp_le at_71 (by decide) (by decide : _ = 80) rfl (fun q => absurd (by decide) q) (fun _ => ?_)
    refine C46.aload at_74 rfl rfl rfl ?_
    refine C46.iconst (2 : Int32) at_76 rfl rfl ?_
    refine C46.aload at_77 rfl rfl rfl ?_
    refine C46.aastore V_b44 O_k44 (Ins.self E_bs43) ⟨by decide, by decide⟩ (Nat.le_of_ble_eq_true rfl) g_b44 at_79 rfl (fun T47 h47 C47 W47 Vn47 => ?_)
    have S_COMPACT_STRINGS := S_COMPACT_STRINGS.wr W47
    have S_DEFAULTCAPACITY_EMPTY_ELEMENTDATA := S_DEFAULTCAPACITY_EMPTY_ELEMENTDATA.wr W47
    have E_bs41 := E_bs41.wr W47
    have E_bs42 := E_bs42.wr W47
    have E_bs43 := E_bs43.wr W47
    have E_b44 := E_b44.wr W47
    have V_b44 : Arv Z h47 b44 k44 (.object "java/lang/String") (3 : Int32) [(.ref bs41), (.ref bs42), (.ref bs43)] .null := Vn47
    refine C47.new (hw _ (List.mem_of_getElem? (i := 28) rfl)) (hw _ (List.mem_of_getElem? (i := 29) rfl)) (hw _ (List.mem_of_getElem? (i := 30) rfl)) at_80 rfl (by decide) (by decide) (fun T48 h48 b48 C48 e48 g_b48 E48 E_b48 D48 => ?_)
    have ne_bs41_b48 : bs41 ≠ b48 := Nat.ne_of_lt (Nat.lt_of_lt_of_eq E_bs41.lt e48.symm)
    have ne_bs42_b48 : bs42 ≠ b48 := Nat.ne_of_lt (Nat.lt_of_lt_of_eq E_bs42.lt e48.symm)
    have ne_bs43_b48 : bs43 ≠ b48 := Nat.ne_of_lt (Nat.lt_of_lt_of_eq E_bs43.lt e48.symm)
    have ne_b44_b48 : b44 ≠ b48 := Nat.ne_of_lt (Nat.lt_of_lt_of_eq V_b44.lt e48.symm)
    have S_COMPACT_STRINGS := S_COMPACT_STRINGS.ext E48
    have S_DEFAULTCAPACITY_EMPTY_ELEMENTDATA := S_DEFAULTCAPACITY_EMPTY_ELEMENTDATA.ext E48
    have E_bs41 := E_bs41.ext E48
    have E_bs42 := E_bs42.ext E48
    have E_bs43 := E_bs43.ext E48
    have V_b44 := V_b44.ext E48
    have E_b44 := E_b44.ext E48
    have F_b48_operands : Fld Z h48 b48 "com/example/bouncer/bouncer/cli/Arguments" "operands" "Ljava/util/List;" .null := D48 (Or.inr (hw _ (List.mem_of_getElem? (i := 64) rfl))) (ty := (.object "java/util/List")) (by decide)
    have F_b48_command : Fld Z h48 b48 "com/example/bouncer/bouncer/cli/Arguments" "command" "Ljava/lang/String;" .null := D48 (Or.inr (hw _ (List.mem_of_getElem? (i := 66) rfl))) (ty := (.object "java/lang/String")) (by decide)
    have F_b48_usage : Fld Z h48 b48 "com/example/bouncer/bouncer/cli/Arguments" "usage" "Ljava/lang/String;" .null := D48 (Or.inr (hw _ (List.mem_of_getElem? (i := 68) rfl))) (ty := (.object "java/lang/String")) (by decide)
    have F_b48_arguments : Fld Z h48 b48 "com/example/bouncer/bouncer/cli/Arguments" "arguments" "[Ljava/lang/String;" .null := D48 (Or.inr (hw _ (List.mem_of_getElem? (i := 79) rfl))) (ty := (.array (.object "java/lang/String"))) (by decide)
    have F_b48_maxOperands : Fld Z h48 b48 "com/example/bouncer/bouncer/cli/Arguments" "maxOperands" "I" (.int (0 : Int32)) := D48 (Or.inr (hw _ (List.mem_of_getElem? (i := 81) rfl))) (ty := .int) (by decide)
    have F_b48_next : Fld Z h48 b48 "com/example/bouncer/bouncer/cli/Arguments" "next" "I" (.int (0 : Int32)) := D48 (Or.inl (hw _ (List.mem_of_getElem? (i := 88) rfl))) (ty := .int) (by decide)
    refine C48.dup at_83 rfl rfl ?_
    refine C48.ldcStr (hw _ (List.mem_of_getElem? (i := 31) rfl)) (own_wS hw) 4 (by decide) (by decide) (by decide) (by decide) at_84 rfl (fun s49 T49 h49 C49 E49 => ?_)
    have S_COMPACT_STRINGS := S_COMPACT_STRINGS.ext E49
    have S_DEFAULTCAPACITY_EMPTY_ELEMENTDATA := S_DEFAULTCAPACITY_EMPTY_ELEMENTDATA.ext E49
    have E_bs41 := E_bs41.ext E49
    have E_bs42 := E_bs42.ext E49
    have E_bs43 := E_bs43.ext E49
    have V_b44 := V_b44.ext E49
    have E_b44 := E_b44.ext E49
    have E_b48 := E_b48.ext E49
    have F_b48_operands := F_b48_operands.ext E49
    have F_b48_command := F_b48_command.ext E49
    have F_b48_usage := F_b48_usage.ext E49
    have F_b48_arguments := F_b48_arguments.ext E49
    have F_b48_maxOperands := F_b48_maxOperands.ext E49
    have F_b48_next := F_b48_next.ext E49
    refine C49.ldcStr (hw _ (List.mem_of_getElem? (i := 34) rfl)) (own_wS hw) 4 (by decide) (by decide) (by decide) (by decide) at_86 rfl (fun s50 T50 h50 C50 E50 => ?_)
    have S_COMPACT_STRINGS := S_COMPACT_STRINGS.ext E50
    have S_DEFAULTCAPACITY_EMPTY_ELEMENTDATA := S_DEFAULTCAPACITY_EMPTY_ELEMENTDATA.ext E50
    have E_bs41 := E_bs41.ext E50
    have E_bs42 := E_bs42.ext E50
    have E_bs43 := E_bs43.ext E50
    have V_b44 := V_b44.ext E50
    have E_b44 := E_b44.ext E50
    have E_b48 := E_b48.ext E50
    have F_b48_operands := F_b48_operands.ext E50
    have F_b48_command := F_b48_command.ext E50
    have F_b48_usage := F_b48_usage.ext E50
    have F_b48_arguments := F_b48_arguments.ext E50
    have F_b48_maxOperands := F_b48_maxOperands.ext E50
    have F_b48_next := F_b48_next.ext E50
    refine C50.aload at_88 rfl rfl rfl ?_
    refine C50.iload at_90 rfl rfl ?_
    refine C50.callN rfl (hw _ (List.mem_of_getElem? (i := 35) rfl)) (hw _ (List.mem_of_getElem? (i := 36) rfl)) (hw _ (List.mem_of_getElem? (i := 30) rfl)) (hw _ (List.mem_of_getElem? (i := 37) rfl)) (by decide) (a := b48) (rm6 l Z a0 hw b48 s49 s50 b44 i4 de .null .null .null .null (.int (0 : Int32)) k44 (3 : Int32) [(.ref bs41), (.ref bs42), (.ref bs43)] .null h50 n0 C50.size E_b48 F_b48_operands F_b48_command F_b48_usage F_b48_arguments F_b48_maxOperands F_b48_next g_b48 S_DEFAULTCAPACITY_EMPTY_ELEMENTDATA E_b44 V_b44 (by decide)) (argsL := [(.ref s49), (.ref s50), (.ref b44), (.int i4)]) pd6 rfl 1 (by decide) (by decide) (by decide) (by decide) (rest := [(.ref b48)]) rfl rfl (Nat.le_of_eq rfl) at_92 rfl (fun v51 T51 h51 C51 qq51 => ?_)
    obtain ⟨bc51, rfl, K51, p51_0, p51_1, p51_2, p51_3, p51_4, p51_5⟩ := qq51
    have S_COMPACT_STRINGS := own_stak S_COMPACT_STRINGS K51 (allS (own_plainE E_b48) (all0))
    have S_DEFAULTCAPACITY_EMPTY_ELEMENTDATA := own_stak S_DEFAULTCAPACITY_EMPTY_ELEMENTDATA K51 (allS (own_plainE E_b48) (all0))
    have E_bs41 := E_bs41.keep K51
    have E_bs42 := E_bs42.keep K51
    have E_bs43 := E_bs43.keep K51
    have V_b44 := V_b44.keep K51 (ninS ne_b44_b48 nin0)
    have E_b44 := E_b44.keep K51
    have E_b48 := E_b48.keep K51
    have E_b48 := p51_0
    have F_b48_arguments := p51_1
    have F_b48_next := p51_2
    have E_bc51 := p51_3
    have V_bc51 := p51_4
    have g_bc51 := p51_5
    show Go p e below F n0 (fun v _ => v = some (.int (1 : Int32))) T51 (mkF m 95 #[.val (.int i0), .val (.int i1), .val (.int i2), .val (.int i3), .val (.int i4), .val (.int (3 : Int32)), .val (.ref bs41), .val (.ref bs42), .val (.ref bs43), .val (.ref b44), .unset, .unset] [(.ref b48)])
    refine C51.astore at_95 rfl rfl (L' := #[.val (.int i0), .val (.int i1), .val (.int i2), .val (.int i3), .val (.int i4), .val (.int (3 : Int32)), .val (.ref bs41), .val (.ref bs42), .val (.ref bs43), .val (.ref b44), .val (.ref b48), .unset]) rfl ?_
    refine C51.iconst (1 : Int32) at_97 rfl rfl ?_
    refine C51.istore at_98 rfl (L' := #[.val (.int i0), .val (.int i1), .val (.int i2), .val (.int i3), .val (.int i4), .val (.int (3 : Int32)), .val (.ref bs41), .val (.ref bs42), .val (.ref bs43), .val (.ref b44), .val (.ref b48), .val (.int (1 : Int32))]) rfl ?_
    refine C51.iload at_100 rfl rfl ?_
    refine C51.if_le at_102 (by decide) (by decide : _ = 150) rfl (fun q => absurd (by decide) q) (fun _ => ?_)
    refine C51.iload at_105 rfl rfl ?_
    refine C51.if_eq at_107 (by decide) (by decide : _ = 122) rfl (fun q => absurd q (by decide)) (fun _ => ?_)
    refine C51.aload at_110 rfl rfl rfl ?_
    refine C51.callV (hw _ (List.mem_of_getElem? (i := 82) rfl)) (hw _ (List.mem_of_getElem? (i := 83) rfl)) (hw _ (List.mem_of_getElem? (i := 85) rfl)) (hw _ (List.mem_of_getElem? (i := 84) rfl)) (hw _ (List.mem_of_getElem? (i := 30) rfl)) (hw _ (List.mem_of_getElem? (i := 86) rfl)) E_b48 (by decide) (a := b48) (rm10 l Z a0 hw b48 bc51 (0 : Int32) k44 (3 : Int32) [(.ref bs41), (.ref bs42), (.ref bs43)] .null h51 n0 C51.size F_b48_arguments F_b48_next V_bc51) (argsL := []) pd10 rfl 0 (by decide) (by decide) (by decide) (by decide) (rest := []) rfl rfl (Nat.le_of_eq rfl) at_112 rfl (fun v52 T52 h52 C52 qq52 => ?_)
    obtain ⟨rfl, hh52⟩ := qq52
    have hh52 := hh52.symm; subst hh52
    show Go p e below F n0 (fun v _ => v = some (.int (1 : Int32))) T52 (mkF m 115 #[.val (.int i0), .val (.int i1), .val (.int i2), .val (.int i3), .val (.int i4), .val (.int (3 : Int32)), .val (.ref bs41), .val (.ref bs42), .val (.ref bs43), .val (.ref b44), .val (.ref b48), .val (.int (1 : Int32))] [(.int (f10 (0 : Int32) (3 : Int32)))])
    refine C52.if_eq at_115 (by decide) (by decide : _ = 122) rfl (fun q => absurd q (by decide)) (fun _ => ?_)
    refine C52.iconst (1 : Int32) at_118 rfl rfl ?_
    refine C52.goto at_119 (by decide) (by decide : _ = 123) ?_
    refine C52.istore at_123 rfl (L' := #[.val (.int i0), .val (.int i1), .val (.int i2), .val (.int i3), .val (.int i4), .val (.int (3 : Int32)), .val (.ref bs41), .val (.ref bs42), .val (.ref bs43), .val (.ref b44), .val (.ref b48), .val (.int (1 : Int32))]) rfl ?_
    refine C52.iload at_125 rfl rfl ?_
    refine C52.if_eq at_127 (by decide) (by decide : _ = 147) rfl (fun q => absurd q (by decide)) (fun _ => ?_)
    refine C52.aload at_130 rfl rfl rfl ?_
    refine C52.aload at_132 rfl rfl rfl ?_
    refine C52.callV (hw _ (List.mem_of_getElem? (i := 89) rfl)) (hw _ (List.mem_of_getElem? (i := 90) rfl)) (hw _ (List.mem_of_getElem? (i := 92) rfl)) (hw _ (List.mem_of_getElem? (i := 91) rfl)) (hw _ (List.mem_of_getElem? (i := 30) rfl)) (hw _ (List.mem_of_getElem? (i := 93) rfl)) E_b48 (by decide) (a := b48) (rm11 l Z a0 hw b48 bc51 (0 : Int32) k44 (3 : Int32) [(.ref bs41), (.ref bs42), (.ref bs43)] .null bs41 h51 n0 C52.size E_b48 F_b48_arguments F_b48_next V_bc51 E_bc51 g_b48 ⟨by decide, by decide⟩ rfl) (argsL := []) pd11 rfl 1 (by decide) (by decide) (by decide) (by decide) (rest := [(.ref bs41)]) rfl rfl (Nat.le_of_eq rfl) at_134 rfl (fun v53 T53 h53 C53 qq53 => ?_)
    obtain ⟨rfl, K53, p53_0, p53_1, p53_2⟩ := qq53
    have ne_bc51_b48 : bc51 ≠ b48 := (ne_exa E_bc51 E_b48 (by decide))
    have S_COMPACT_STRINGS := own_stak S_COMPACT_STRINGS K53 (allS (own_plainE E_b48) (all0))
    have S_DEFAULTCAPACITY_EMPTY_ELEMENTDATA := own_stak S_DEFAULTCAPACITY_EMPTY_ELEMENTDATA K53 (allS (own_plainE E_b48) (all0))
    have E_bs41 := E_bs41.keep K53
    have E_bs42 := E_bs42.keep K53
    have E_bs43 := E_bs43.keep K53
    have V_b44 := V_b44.keep K53 (ninS ne_b44_b48 nin0)
    have E_b44 := E_b44.keep K53
    have E_b48 := E_b48.keep K53
    have E_bc51 := E_bc51.keep K53
    have V_bc51 := V_bc51.keep K53 (ninS ne_bc51_b48 nin0)
    have E_b48 := p53_0
    have F_b48_arguments := p53_1
    have F_b48_next := p53_2
    show Go p e below F n0 (fun v _ => v = some (.int (1 : Int32))) T53 (mkF m 137 #[.val (.int i0), .val (.int i1), .val (.int i2), .val (.int i3), .val (.int i4), .val (.int (3 : Int32)), .val (.ref bs41), .val (.ref bs42), .val (.ref bs43), .val (.ref b44), .val (.ref b48), .val (.int (1 : Int32))] [(.ref bs41), (.ref bs41)])
    refine C53.callV (hw _ (List.mem_of_getElem? (i := 94) rfl)) (hw _ (List.mem_of_getElem? (i := 95) rfl)) (hw _ (List.mem_of_getElem? (i := 97) rfl)) (hw _ (List.mem_of_getElem? (i := 96) rfl)) (hw _ (List.mem_of_getElem? (i := 2) rfl)) (hw _ (List.mem_of_getElem? (i := 98) rfl)) E_bs41 (by decide) (a := bs41) (rm12 l Z a0 hw bs41 bs41 h53 n0 C53.size rfl) (argsL := [(.ref bs41)]) pd12 rfl 0 (by decide) (by decide) (by decide) (by decide) (rest := []) rfl rfl (Nat.le_of_eq rfl) at_137 rfl (fun v54 T54 h54 C54 qq54 => ?_)
    obtain ⟨rfl, hh54⟩ := qq54
    have hh54 := hh54.symm; subst hh54
    show Go p e below F n0 (fun v _ => v = some (.int (1 : Int32))) T54 (mkF m 140 #[.val (.int i0), .val (.int i1), .val (.int i2), .val (.int i3), .val (.int i4), .val (.int (3 : Int32)), .val (.ref bs41), .val (.ref bs42), .val (.ref bs43), .val (.ref b44), .val (.ref b48), .val (.int (1 : Int32))] [(.int (1 : Int32))])
    refine C54.if_eq at_140 (by decide) (by decide : _ = 147) rfl (fun q => absurd q (by decide)) (fun _ => ?_)
    refine C54.iconst (1 : Int32) at_143 rfl rfl ?_
    refine C54.goto at_144 (by decide) (by decide : _ = 148) ?_
    refine C54.istore at_148 rfl (L' := #[.val (.int i0), .val (.int i1), .val (.int i2), .val (.int i3), .val (.int i4), .val (.int (3 : Int32)), .val (.ref bs41), .val (.ref bs42), .val (.ref bs43), .val (.ref b44), .val (.ref b48), .val (.int (1 : Int32))]) rfl ?_
    refine C54.iload at_150 rfl rfl ?_
    refine C54.iconst (1 : Int32) at_152 rfl rfl ?_
    refine C54.icmp_le at_153 (by decide) (by decide : _ = 201) rfl (fun q => absurd (by decide) q) (fun _ => ?_)
    refine C54.iload at_156 rfl rfl ?_
    refine C54.if_eq at_158 (by decide) (by decide : _ = 173) rfl (fun q => absurd q (by decide)) (fun _ => ?_)
    refine C54.aload at_161 rfl rfl rfl ?_
    refine C54.callV (hw _ (List.mem_of_getElem? (i := 82) rfl)) (hw _ (List.mem_of_getElem? (i := 83) rfl)) (hw _ (List.mem_of_getElem? (i := 85) rfl)) (hw _ (List.mem_of_getElem? (i := 84) rfl)) (hw _ (List.mem_of_getElem? (i := 30) rfl)) (hw _ (List.mem_of_getElem? (i := 86) rfl)) E_b48 (by decide) (a := b48) (rm10 l Z a0 hw b48 bc51 ((0 : Int32) + (1 : Int32)) k44 (3 : Int32) [(.ref bs41), (.ref bs42), (.ref bs43)] .null h53 n0 C54.size F_b48_arguments F_b48_next V_bc51) (argsL := []) pd10 rfl 0 (by decide) (by decide) (by decide) (by decide) (rest := []) rfl rfl (Nat.le_of_eq rfl) at_163 rfl (fun v55 T55 h55 C55 qq55 => ?_)
    obtain ⟨rfl, hh55⟩ := qq55
    have hh55 := hh55.symm; subst hh55
    show Go p e below F n0 (fun v _ => v = some (.int (1 : Int32))) T55 (mkF m 166 #[.val (.int i0), .val (.int i1), .val (.int i2), .val (.int i3), .val (.int i4), .val (.int (3 : Int32)), .val (.ref bs41), .val (.ref bs42), .val (.ref bs43), .val (.ref b44), .val (.ref b48), .val (.int (1 : Int32))] [(.int (f10 ((0 : Int32) + (1 : Int32)) (3 : Int32)))])
    refine C55.if_eq at_166 (by decide) (by decide : _ = 173) rfl (fun q => absurd q (by decide)) (fun _ => ?_)
    refine C55.iconst (1 : Int32) at_169 rfl rfl ?_
    refine C55.goto at_170 (by decide) (by decide : _ = 174) ?_
    refine C55.istore at_174 rfl (L' := #[.val (.int i0), .val (.int i1), .val (.int i2), .val (.int i3), .val (.int i4), .val (.int (3 : Int32)), .val (.ref bs41), .val (.ref bs42), .val (.ref bs43), .val (.ref b44), .val (.ref b48), .val (.int (1 : Int32))]) rfl ?_
    refine C55.iload at_176 rfl rfl ?_
    refine C55.if_eq at_178 (by decide) (by decide : _ = 198) rfl (fun q => absurd q (by decide)) (fun _ => ?_)
    refine C55.aload at_181 rfl rfl rfl ?_
    refine C55.aload at_183 rfl rfl rfl ?_
    refine C55.callV (hw _ (List.mem_of_getElem? (i := 89) rfl)) (hw _ (List.mem_of_getElem? (i := 90) rfl)) (hw _ (List.mem_of_getElem? (i := 92) rfl)) (hw _ (List.mem_of_getElem? (i := 91) rfl)) (hw _ (List.mem_of_getElem? (i := 30) rfl)) (hw _ (List.mem_of_getElem? (i := 93) rfl)) E_b48 (by decide) (a := b48) (rm11 l Z a0 hw b48 bc51 ((0 : Int32) + (1 : Int32)) k44 (3 : Int32) [(.ref bs41), (.ref bs42), (.ref bs43)] .null bs42 h53 n0 C55.size E_b48 F_b48_arguments F_b48_next V_bc51 E_bc51 g_b48 ⟨by decide, by decide⟩ rfl) (argsL := []) pd11 rfl 1 (by decide) (by decide) (by decide) (by decide) (rest := [(.ref bs42)]) rfl rfl (Nat.le_of_eq rfl) at_185 rfl (fun v56 T56 h56 C56 qq56 => ?_)
    obtain ⟨rfl, K56, p56_0, p56_1, p56_2⟩ := qq56
    have S_COMPACT_STRINGS := own_stak S_COMPACT_STRINGS K56 (allS (own_plainE E_b48) (all0))
    have S_DEFAULTCAPACITY_EMPTY_ELEMENTDATA := own_stak S_DEFAULTCAPACITY_EMPTY_ELEMENTDATA K56 (allS (own_plainE E_b48) (all0))
    have E_bs41 := E_bs41.keep K56
    have E_bs42 := E_bs42.keep K56
    have E_bs43 := E_bs43.keep K56
    have V_b44 := V_b44.keep K56 (ninS ne_b44_b48 nin0)
    have E_b44 := E_b44.keep K56
    have E_b48 := E_b48.keep K56
    have E_bc51 := E_bc51.keep K56
    have V_bc51 := V_bc51.keep K56 (ninS ne_bc51_b48 nin0)
    have E_b48 := p56_0
    have F_b48_arguments := p56_1
    have F_b48_next := p56_2
    show Go p e below F n0 (fun v _ => v = some (.int (1 : Int32))) T56 (mkF m 188 #[.val (.int i0), .val (.int i1), .val (.int i2), .val (.int i3), .val (.int i4), .val (.int (3 : Int32)), .val (.ref bs41), .val (.ref bs42), .val (.ref bs43), .val (.ref b44), .val (.ref b48), .val (.int (1 : Int32))] [(.ref bs42), (.ref bs42)])
    refine C56.callV (hw _ (List.mem_of_getElem? (i := 94) rfl)) (hw _ (List.mem_of_getElem? (i := 95) rfl)) (hw _ (List.mem_of_getElem? (i := 97) rfl)) (hw _ (List.mem_of_getElem? (i := 96) rfl)) (hw _ (List.mem_of_getElem? (i := 2) rfl)) (hw _ (List.mem_of_getElem? (i := 98) rfl)) E_bs42 (by decide) (a := bs42) (rm12 l Z a0 hw bs42 bs42 h56 n0 C56.size rfl) (argsL := [(.ref bs42)]) pd12 rfl 0 (by decide) (by decide) (by decide) (by decide) (rest := []) rfl rfl (Nat.le_of_eq rfl) at_188 rfl (fun v57 T57 h57 C57 qq57 => ?_)
    obtain ⟨rfl, hh57⟩ := qq57
    have hh57 := hh57.symm; subst hh57
    show Go p e below F n0 (fun v _ => v = some (.int (1 : Int32))) T57 (mkF m 191 #[.val (.int i0), .val (.int i1), .val (.int i2), .val (.int i3), .val (.int i4), .val (.int (3 : Int32)), .val (.ref bs41), .val (.ref bs42), .val (.ref bs43), .val (.ref b44), .val (.ref b48), .val (.int (1 : Int32))] [(.int (1 : Int32))])
    refine C57.if_eq at_191 (by decide) (by decide : _ = 198) rfl (fun q => absurd q (by decide)) (fun _ => ?_)
    refine C57.iconst (1 : Int32) at_194 rfl rfl ?_
    refine C57.goto at_195 (by decide) (by decide : _ = 199) ?_
    refine C57.istore at_199 rfl (L' := #[.val (.int i0), .val (.int i1), .val (.int i2), .val (.int i3), .val (.int i4), .val (.int (3 : Int32)), .val (.ref bs41), .val (.ref bs42), .val (.ref bs43), .val (.ref b44), .val (.ref b48), .val (.int (1 : Int32))]) rfl ?_
    refine C57.iload at_201 rfl rfl ?_
    refine C57.iconst (2 : Int32) at_203 rfl rfl ?_
    refine C57.icmp_le at_204 (by decide) (by decide : _ = 252) rfl (fun q => absurd (by decide) q) (fun _ => ?_)
    refine C57.iload at_207 rfl rfl ?_
    refine C57.if_eq at_209 (by decide) (by decide : _ = 224) rfl (fun q => absurd q (by decide)) (fun _ => ?_)
    refine C57.aload at_212 rfl rfl rfl ?_
    refine C57.callV (hw _ (List.mem_of_getElem? (i := 82) rfl)) (hw _ (List.mem_of_getElem? (i := 83) rfl)) (hw _ (List.mem_of_getElem? (i := 85) rfl)) (hw _ (List.mem_of_getElem? (i := 84) rfl)) (hw _ (List.mem_of_getElem? (i := 30) rfl)) (hw _ (List.mem_of_getElem? (i := 86) rfl)) E_b48 (by decide) (a := b48) (rm10 l Z a0 hw b48 bc51 (((0 : Int32) + (1 : Int32)) + (1 : Int32)) k44 (3 : Int32) [(.ref bs41), (.ref bs42), (.ref bs43)] .null h56 n0 C57.size F_b48_arguments F_b48_next V_bc51) (argsL := []) pd10 rfl 0 (by decide) (by decide) (by decide) (by decide) (rest := []) rfl rfl (Nat.le_of_eq rfl) at_214 rfl (fun v58 T58 h58 C58 qq58 => ?_)
    obtain ⟨rfl, hh58⟩ := qq58
    have hh58 := hh58.symm; subst hh58
    show Go p e below F n0 (fun v _ => v = some (.int (1 : Int32))) T58 (mkF m 217 #[.val (.int i0), .val (.int i1), .val (.int i2), .val (.int i3), .val (.int i4), .val (.int (3 : Int32)), .val (.ref bs41), .val (.ref bs42), .val (.ref bs43), .val (.ref b44), .val (.ref b48), .val (.int (1 : Int32))] [(.int (f10 (((0 : Int32) + (1 : Int32)) + (1 : Int32)) (3 : Int32)))])
    refine C58.if_eq at_217 (by decide) (by decide : _ = 224) rfl (fun q => absurd q (by decide)) (fun _ => ?_)
    refine C58.iconst (1 : Int32) at_220 rfl rfl ?_
    refine C58.goto at_221 (by decide) (by decide : _ = 225) ?_
    refine C58.istore at_225 rfl (L' := #[.val (.int i0), .val (.int i1), .val (.int i2), .val (.int i3), .val (.int i4), .val (.int (3 : Int32)), .val (.ref bs41), .val (.ref bs42), .val (.ref bs43), .val (.ref b44), .val (.ref b48), .val (.int (1 : Int32))]) rfl ?_
    refine C58.iload at_227 rfl rfl ?_
    refine C58.if_eq at_229 (by decide) (by decide : _ = 249) rfl (fun q => absurd q (by decide)) (fun _ => ?_)
    refine C58.aload at_232 rfl rfl rfl ?_
    refine C58.aload at_234 rfl rfl rfl ?_
    refine C58.callV (hw _ (List.mem_of_getElem? (i := 89) rfl)) (hw _ (List.mem_of_getElem? (i := 90) rfl)) (hw _ (List.mem_of_getElem? (i := 92) rfl)) (hw _ (List.mem_of_getElem? (i := 91) rfl)) (hw _ (List.mem_of_getElem? (i := 30) rfl)) (hw _ (List.mem_of_getElem? (i := 93) rfl)) E_b48 (by decide) (a := b48) (rm11 l Z a0 hw b48 bc51 (((0 : Int32) + (1 : Int32)) + (1 : Int32)) k44 (3 : Int32) [(.ref bs41), (.ref bs42), (.ref bs43)] .null bs43 h56 n0 C58.size E_b48 F_b48_arguments F_b48_next V_bc51 E_bc51 g_b48 ⟨by decide, by decide⟩ rfl) (argsL := []) pd11 rfl 1 (by decide) (by decide) (by decide) (by decide) (rest := [(.ref bs43)]) rfl rfl (Nat.le_of_eq rfl) at_236 rfl (fun v59 T59 h59 C59 qq59 => ?_)
    obtain ⟨rfl, K59, p59_0, p59_1, p59_2⟩ := qq59
    have S_COMPACT_STRINGS := own_stak S_COMPACT_STRINGS K59 (allS (own_plainE E_b48) (all0))
    have S_DEFAULTCAPACITY_EMPTY_ELEMENTDATA := own_stak S_DEFAULTCAPACITY_EMPTY_ELEMENTDATA K59 (allS (own_plainE E_b48) (all0))
    have E_bs41 := E_bs41.keep K59
    have E_bs42 := E_bs42.keep K59
    have E_bs43 := E_bs43.keep K59
    have V_b44 := V_b44.keep K59 (ninS ne_b44_b48 nin0)
    have E_b44 := E_b44.keep K59
    have E_b48 := E_b48.keep K59
    have E_bc51 := E_bc51.keep K59
    have V_bc51 := V_bc51.keep K59 (ninS ne_bc51_b48 nin0)
    have E_b48 := p59_0
    have F_b48_arguments := p59_1
    have F_b48_next := p59_2
    show Go p e below F n0 (fun v _ => v = some (.int (1 : Int32))) T59 (mkF m 239 #[.val (.int i0), .val (.int i1), .val (.int i2), .val (.int i3), .val (.int i4), .val (.int (3 : Int32)), .val (.ref bs41), .val (.ref bs42), .val (.ref bs43), .val (.ref b44), .val (.ref b48), .val (.int (1 : Int32))] [(.ref bs43), (.ref bs43)])
    refine C59.callV (hw _ (List.mem_of_getElem? (i := 94) rfl)) (hw _ (List.mem_of_getElem? (i := 95) rfl)) (hw _ (List.mem_of_getElem? (i := 97) rfl)) (hw _ (List.mem_of_getElem? (i := 96) rfl)) (hw _ (List.mem_of_getElem? (i := 2) rfl)) (hw _ (List.mem_of_getElem? (i := 98) rfl)) E_bs43 (by decide) (a := bs43) (rm12 l Z a0 hw bs43 bs43 h59 n0 C59.size rfl) (argsL := [(.ref bs43)]) pd12 rfl 0 (by decide) (by decide) (by decide) (by decide) (rest := []) rfl rfl (Nat.le_of_eq rfl) at_239 rfl (fun v60 T60 h60 C60 qq60 => ?_)
    obtain ⟨rfl, hh60⟩ := qq60
    have hh60 := hh60.symm; subst hh60
    show Go p e below F n0 (fun v _ => v = some (.int (1 : Int32))) T60 (mkF m 242 #[.val (.int i0), .val (.int i1), .val (.int i2), .val (.int i3), .val (.int i4), .val (.int (3 : Int32)), .val (.ref bs41), .val (.ref bs42), .val (.ref bs43), .val (.ref b44), .val (.ref b48), .val (.int (1 : Int32))] [(.int (1 : Int32))])
    refine C60.if_eq at_242 (by decide) (by decide : _ = 249) rfl (fun q => absurd q (by decide)) (fun _ => ?_)
    refine C60.iconst (1 : Int32) at_245 rfl rfl ?_
    refine C60.goto at_246 (by decide) (by decide : _ = 250) ?_
    refine C60.istore at_250 rfl (L' := #[.val (.int i0), .val (.int i1), .val (.int i2), .val (.int i3), .val (.int i4), .val (.int (3 : Int32)), .val (.ref bs41), .val (.ref bs42), .val (.ref bs43), .val (.ref b44), .val (.ref b48), .val (.int (1 : Int32))]) rfl ?_
    refine C60.iload at_252 rfl rfl ?_
    refine C60.if_eq at_254 (by decide) (by decide : _ = 269) rfl (fun q => absurd q (by decide)) (fun _ => ?_)
    refine C60.aload at_257 rfl rfl rfl ?_
    refine C60.callV (hw _ (List.mem_of_getElem? (i := 82) rfl)) (hw _ (List.mem_of_getElem? (i := 83) rfl)) (hw _ (List.mem_of_getElem? (i := 85) rfl)) (hw _ (List.mem_of_getElem? (i := 84) rfl)) (hw _ (List.mem_of_getElem? (i := 30) rfl)) (hw _ (List.mem_of_getElem? (i := 86) rfl)) E_b48 (by decide) (a := b48) (rm10 l Z a0 hw b48 bc51 ((((0 : Int32) + (1 : Int32)) + (1 : Int32)) + (1 : Int32)) k44 (3 : Int32) [(.ref bs41), (.ref bs42), (.ref bs43)] .null h59 n0 C60.size F_b48_arguments F_b48_next V_bc51) (argsL := []) pd10 rfl 0 (by decide) (by decide) (by decide) (by decide) (rest := []) rfl rfl (Nat.le_of_eq rfl) at_259 rfl (fun v61 T61 h61 C61 qq61 => ?_)
    obtain ⟨rfl, hh61⟩ := qq61
    have hh61 := hh61.symm; subst hh61
    show Go p e below F n0 (fun v _ => v = some (.int (1 : Int32))) T61 (mkF m 262 #[.val (.int i0), .val (.int i1), .val (.int i2), .val (.int i3), .val (.int i4), .val (.int (3 : Int32)), .val (.ref bs41), .val (.ref bs42), .val (.ref bs43), .val (.ref b44), .val (.ref b48), .val (.int (1 : Int32))] [(.int (f10 ((((0 : Int32) + (1 : Int32)) + (1 : Int32)) + (1 : Int32)) (3 : Int32)))])
    refine C61.if_ne at_262 (by decide) (by decide : _ = 269) rfl (fun q => absurd (by decide) q) (fun _ => ?_)
    refine C61.iconst (1 : Int32) at_265 rfl rfl ?_
    refine C61.goto at_266 (by decide) (by decide : _ = 270) ?_
    refine C61.istore at_270 rfl (L' := #[.val (.int i0), .val (.int i1), .val (.int i2), .val (.int i3), .val (.int i4), .val (.int (3 : Int32)), .val (.ref bs41), .val (.ref bs42), .val (.ref bs43), .val (.ref b44), .val (.ref b48), .val (.int (1 : Int32))]) rfl ?_
    refine C61.iload at_272 rfl rfl ?_
    exact C61.retN (t := .boolean) at_274 rfl (by simp) (by decide) (by decide) (w := (1 : Int32)) rfl rfl
set_option maxRecDepth 65536 in
set_option maxHeartbeats 40000000 in
theorem comes_1 {Post : Tables → Env → Array Value → State → Outcome → State → Prop} (hpost : ∀ tb e args s v u, (limb_1_1.after args s (.returned v) u = true ∧ limb_1_2.after args s (.returned v) u = true ∧ True) → Jvm.D.FramedW s (.returned v) u (Jvm.fieldLocs frame_1_writes args s ++ Jvm.arrayLocs frame_1_arrays args s ++ Jvm.staticLocs frame_1_statics s) 32 2240 → Post tb e args s (.returned v) u) :
    ArmFor flags0 classFile x code maxLocals ret World_1 tables_1 room_1 Calls_1 rest_1 Pre_1 Post := by
  intro l hfl _ _ p e ha hc hk s m args below hf hA hF happ hP
  obtain ⟨hcalls, hrest, hpre⟩ := hP
  obtain ⟨-, -, -, hnamed, -, -, -, hat⟩ := (Spec.applies_iff hf).mp happ
  obtain ⟨hg, hn⟩ := and_e (Cond.before_iff.mp (show (Jvm.Cond.and given_1 narrow_1).before args s = true from hpre))
  obtain ⟨g1, g2⟩ := and_e hg
  obtain ⟨g3, g4⟩ := and_e g2
  obtain ⟨g5, g6⟩ := and_e g4
  obtain ⟨g7, g8⟩ := and_e g6
  obtain ⟨g9, g10⟩ := and_e g8
  obtain ⟨w0, w1, w2, w3, w4, rfl⟩ : ∃ w0 w1 w2 w3 w4 : Value, args = #[w0, w1, w2, w3, w4] := by
    have hs : args.size = 5 := by simpa [Cond.value, given_1] using g1
    obtain ⟨L⟩ := args
    match L, hs with
    | [w0, w1, w2, w3, w4], _ => exact ⟨w0, w1, w2, w3, w4, rfl⟩
  have hw := fun d (hd : d ∈ tables_1) => atoms_spec (ws := Jvm.Cond.code x code maxLocals ret :: tables_1) hat d (List.mem_cons_of_mem _ hd)
  have hfit : Fit s := fun {y c} hc i hi => by
    obtain ⟨ha, rfl⟩ := Array.getElem?_eq_some_iff.mp hc
    have q := List.all_eq_true.mp ((Array.all_eq_true_iff_forall_mem.mp hF) _ (Array.getElem_mem ha)) i (List.mem_range.mpr hi)
    simpa [Array.getElem?_eq_getElem hi] using q
  obtain ⟨hsets, hown0⟩ := atoms_of _ (rest_1_c_eq ▸ (show rest_1_c.before _ s = true from hrest))
  have hr0 := Cond.before_iff.mp hown0
  obtain ⟨i0, ei0⟩ := is_v g3
  obtain rfl : w0 = (.int i0) := Option.some.inj ei0
  obtain ⟨i1, ei1⟩ := is_v g5
  obtain rfl : w1 = (.int i1) := Option.some.inj ei1
  obtain ⟨i2, ei2⟩ := is_v g7
  obtain rfl : w2 = (.int i2) := Option.some.inj ei2
  obtain ⟨i3, ei3⟩ := is_v g9
  obtain rfl : w3 = (.int i3) := Option.some.inj ei3
  obtain ⟨i4, ei4⟩ := is_v g10
  obtain rfl : w4 = (.int i4) := Option.some.inj ei4
  obtain ⟨cs, evc⟩ := is_v (Cond.before_iff.mp (hsets _ (List.mem_of_getElem? (i := 1) rfl)))
  have S1 := Sta.start evc (Or.inl (hsets _ (List.mem_of_getElem? (i := 0) rfl)))
  have hcs := own_nz evc (Cond.before_iff.mp (hsets _ (List.mem_of_getElem? (i := 2) rfl)))
  obtain ⟨de, ev1⟩ := exa_v (Cond.before_iff.mp (hsets _ (List.mem_of_getElem? (i := 16) rfl)))
  have S2 := Sta.start ev1 (Or.inr ⟨(hw _ (List.mem_of_getElem? (i := 41) rfl)), hsets _ (List.mem_of_getElem? (i := 11) rfl)⟩)
  obtain ⟨n, o, h1, h2, h3, _, L, rfl, ⟨⟨rfl, -⟩, N⟩, hq⟩ := rm0 l s _ hw i0 i1 i2 i3 i4 cs de s.heap s.heap.size (Nat.le_refl _) S1 hcs S2 tables_1 p e ha hc hk s m _ below hf ((Spec.applies_iff_loose hf).mp happ).1 ⟨rfl, State.Warmed39.refl s, rfl⟩ trivial
  refine ⟨n, _, h1, h2, h3, hpost _ _ _ _ _ _ ⟨Cond.after_iff.mpr rfl, Cond.after_iff.mpr (eq_i res_at (Term.int_eval (1)) rfl), trivial⟩ ⟨hq.1, hq.2.1, hq.2.2.1, (hq.2.2.2.sift fun y hy => Or.inr (N y hy)).mono (by decide) (by decide)⟩⟩
theorem main_1_1 : Claimed_1_1 := comes_1 fun _ _ _ _ _ _ h hF => ⟨h.1, hF⟩
theorem main_1_2 : Claimed_1_2 := comes_1 fun _ _ _ _ _ _ h hF => ⟨h.2.1, hF⟩
end Jvm.Pilot.@@N@@
namespace Jvm.Pilot.@@N@@
open Jvm Jvm.ClassFile Sem Op Lib Jvm.Free Jvm.Stand Jvm.Pilot.@@N@@.Jvm.D
/-! MADE BY PROGRAM (witnessworld.py) out of the Statement's table words and the real class files: 27 classes; the members and pool entries that the words name. The judged class is class 1, her method 1. -/
namespace start1
open Jvm.ClassFile
def u (s : String) : CpInfo := .utf8 (stringToUtf16 s)
/-- a pool by its gaps: so many unusable entries, then the entry; so many at the end -/
def gap : Nat → List CpInfo → List CpInfo
  | 0, r => r
  | n + 1, r => .unusable :: gap n r
def poolList (es : List (Nat × CpInfo)) (last : Nat) : List CpInfo := es.foldr (fun e r => gap e.1 (e.2 :: r)) (gap last [])
def pool (es : List (Nat × CpInfo)) (last : Nat) : Array CpInfo := ⟨poolList es last⟩
def fileOf (pool : Array CpInfo) (this : Nat) (attrs : Array Attribute := #[]) (ms : Array MethodInfo := #[]) (fl : Nat := 33) (sup : Nat := 0) (ifs : Array Nat := #[]) (fds : Array FieldInfo := #[]) : ClassFile where
  minorVersion := 0
  majorVersion := 65
  constantPool := pool
  accessFlags := fl
  thisClass := this
  superClass := sup
  interfaces := ifs
  fields := fds
  methods := ms
  attributes := attrs
def plain (name : String) (sup : Option ClassId) : Class where
  name := name
  kind := .ordinary
  loader := none
  accessFlags := 33
  super := sup
  interfaces := #[]
  cf := none
  fields := #[]
  methods := #[]
  instanceTypes := #[]
  staticTypes := #[]
  resolved := #[]
  callSites := []
  init := .initialized
  statics := none
  mirror := none

def pool0 : Array CpInfo := pool [(5, u "<init>"), (0, u "()V"), (1, .class_ 10), (1, u "java/lang/Object"), (85, u "clone"), (0, u "()Ljava/lang/Object;")] 26

def k0c0 : Code := { maxStack := 0, maxLocals := 1, code := object_method_1_code, exceptionTable := #[], attributes := #[] }
def k0m0 : Method := { name := "<init>", desc := "()V", sig := { parameters := [], returnType := none }, accessFlags := 1, code := some k0c0 }
def k0m1 : Method := { name := "clone", desc := "()Ljava/lang/Object;", sig := { parameters := [], returnType := some (.object "java/lang/Object") }, accessFlags := 260, code := none }
/-- java/lang/Object -/
def k0 : Class := { plain "java/lang/Object" none with
  accessFlags := 33
  interfaces := #[]
  cf := some (fileOf pool0 8 #[] #[{ accessFlags := 1, nameIndex := 5, descriptorIndex := 6, attributes := #[] }, { accessFlags := 260, nameIndex := 96, descriptorIndex := 97, attributes := #[] }] 33 0 #[] #[])
  fields := #[]
  methods := #[k0m0, k0m1]
  instanceTypes := #[]
  staticTypes := #[]
  resolved := Array.replicate 124 none
  statics := none }

def pool1 : Array CpInfo := pool [(2, .class_ 4), (1, u "java/lang/Object"), (0, u "<init>"), (0, u "()V"), (0, .methodref 8 9), (0, .class_ 10), (0, .nameAndType 11 12), (0, u "java/lang/String"), (0, u "valueOf"), (0, u "(C)Ljava/lang/String;"), (0, .class_ 14), (0, u "com/example/bouncer/bouncer/cli/Arguments"), (0, .string 16), (0, u "c"), (0, .string 18), (0, u "u"), (0, .methodref 13 20), (0, .nameAndType 5 21), (0, u "(Ljava/lang/String;Ljava/lang/String;[Ljava/lang/String;I)V"), (0, .methodref 13 23), (0, .nameAndType 24 25), (0, u "hasNext"), (0, u "()Z"), (0, .methodref 13 27), (0, .nameAndType 28 29), (0, u "next"), (0, u "()Ljava/lang/String;"), (0, .methodref 8 31), (0, .nameAndType 32 33), (0, u "equals"), (0, u "(Ljava/lang/Object;)Z"), (0, .class_ 35), (0, u "com/example/bouncer/bouncer/cli/ArgumentsNextPinLaw"), (2, u "law"), (0, u "(IIIII)Z")] 5

def k1m0 : Method := { name := "<init>", desc := "()V", sig := { parameters := [], returnType := none }, accessFlags := 1, code := none }
def k1c1 : Code := { maxStack := 6, maxLocals := 12, code := code, exceptionTable := #[], attributes := #[] }
def k1m1 : Method := { name := "law", desc := "(IIIII)Z", sig := { parameters := [.int, .int, .int, .int, .int], returnType := some .boolean }, accessFlags := 9, code := some k1c1 }
/-- com/example/bouncer/bouncer/cli/ArgumentsNextPinLaw -/
def k1 : Class := { plain "com/example/bouncer/bouncer/cli/ArgumentsNextPinLaw" (some 0) with
  accessFlags := 49
  interfaces := #[]
  cf := some (fileOf pool1 34 #[] #[{ accessFlags := 1, nameIndex := 5, descriptorIndex := 6, attributes := #[] }, { accessFlags := 9, nameIndex := 38, descriptorIndex := 39, attributes := #[] }] 49 2 #[] #[])
  fields := #[]
  methods := #[k1m0, k1m1]
  instanceTypes := #[]
  staticTypes := #[]
  resolved := Array.replicate 45 none
  statics := none }

def pool2 : Array CpInfo := pool [(1, .class_ 2), (0, u "java/io/Serializable"), (0, .class_ 4), (0, u "java/lang/Object")] 2

/-- java/io/Serializable -/
def k2 : Class := { plain "java/io/Serializable" (some 0) with
  accessFlags := 1537
  interfaces := #[]
  cf := some (fileOf pool2 1 #[] #[] 1537 3 #[] #[])
  fields := #[]
  methods := #[]
  instanceTypes := #[]
  staticTypes := #[]
  resolved := Array.replicate 7 none
  statics := none }

def pool3 : Array CpInfo := pool [(1, .class_ 2), (0, u "java/lang/Comparable"), (0, .class_ 4), (0, u "java/lang/Object")] 7

/-- java/lang/Comparable -/
def k3 : Class := { plain "java/lang/Comparable" (some 0) with
  accessFlags := 1537
  interfaces := #[]
  cf := some (fileOf pool3 1 #[] #[] 1537 3 #[] #[])
  fields := #[]
  methods := #[]
  instanceTypes := #[]
  staticTypes := #[]
  resolved := Array.replicate 12 none
  statics := none }

def pool4 : Array CpInfo := pool [(2, .class_ 4), (1, u "java/lang/CharSequence"), (42, .class_ 48), (0, u "java/lang/CharSequence$1CodePointIterator"), (10, .class_ 60), (0, u "java/lang/CharSequence$1CharIterator"), (5, .class_ 67), (0, u "java/lang/Object")] 63

/-- java/lang/CharSequence -/
def k4 : Class := { plain "java/lang/CharSequence" (some 0) with
  accessFlags := 1537
  interfaces := #[]
  cf := some (fileOf pool4 2 #[.nestMembers #[47, 59]] #[] 1537 66 #[] #[])
  fields := #[]
  methods := #[]
  instanceTypes := #[]
  staticTypes := #[]
  resolved := Array.replicate 131 none
  statics := none }

def pool5 : Array CpInfo := pool [(1, .class_ 2), (0, u "java/lang/constant/Constable"), (0, .class_ 4), (0, u "java/lang/Object")] 6

/-- java/lang/constant/Constable -/
def k5 : Class := { plain "java/lang/constant/Constable" (some 0) with
  accessFlags := 1537
  interfaces := #[]
  cf := some (fileOf pool5 1 #[] #[] 1537 3 #[] #[])
  fields := #[]
  methods := #[]
  instanceTypes := #[]
  staticTypes := #[]
  resolved := Array.replicate 11 none
  statics := none }

def pool6 : Array CpInfo := pool [(1, .class_ 2), (0, u "java/lang/constant/ConstantDesc"), (0, .class_ 4), (0, u "java/lang/Object")] 32

/-- java/lang/constant/ConstantDesc -/
def k6 : Class := { plain "java/lang/constant/ConstantDesc" (some 0) with
  accessFlags := 1537
  interfaces := #[]
  cf := some (fileOf pool6 1 #[] #[] 1537 3 #[] #[])
  fields := #[]
  methods := #[]
  instanceTypes := #[]
  staticTypes := #[]
  resolved := Array.replicate 37 none
  statics := none }

def pool7 : Array CpInfo := pool [(1, .methodref 2 3), (0, .class_ 4), (0, .nameAndType 5 6), (0, u "java/lang/Object"), (0, u "<init>"), (0, u "()V"), (2, .fieldref 10 11), (0, .class_ 12), (0, .nameAndType 13 14), (0, u "java/lang/String"), (0, u "value"), (0, u "[B"), (0, .fieldref 10 16), (0, .nameAndType 17 18), (0, u "coder"), (0, u "B"), (2, u "hash"), (0, u "I"), (2, u "hashIsZero"), (0, u "Z"), (11, .fieldref 10 39), (0, .nameAndType 40 26), (0, u "COMPACT_STRINGS"), (12, u "toBytes"), (53, .class_ 109), (1, u "java/lang/StringLatin1"), (99, .methodref 10 210), (0, .nameAndType 5 211), (0, u "([BB)V"), (157, u "(C)Z"), (173, u "equals"), (29, u "(Ljava/lang/Object;)Z"), (1, .class_ 576), (0, u "java/lang/CharSequence"), (22, u "CASE_INSENSITIVE_ORDER"), (0, u "Ljava/util/Comparator;"), (181, u "valueOf"), (0, u "(C)Ljava/lang/String;"), (231, .methodref 107 1016), (0, .nameAndType 1017 369), (0, u "canEncode"), (0, .methodref 107 1019), (0, .nameAndType 53 1020), (0, u "(C)[B"), (80, u "serialPersistentFields"), (0, u "[Ljava/io/ObjectStreamField;"), (0, .class_ 1104), (0, u "java/lang/String$CaseInsensitiveComparator"), (1, .class_ 1107), (0, u "java/io/Serializable"), (0, .class_ 1109), (0, u "java/lang/Comparable"), (0, .class_ 1111), (0, u "java/lang/constant/Constable"), (0, .class_ 1113), (0, u "java/lang/constant/ConstantDesc"), (2, u "serialVersionUID"), (0, u "J"), (3, u "REPL"), (0, u "C"), (2, u "LATIN1"), (1, u "UTF16")] 323

def k7m0 : Method := { name := "<init>", desc := "()V", sig := { parameters := [], returnType := none }, accessFlags := 1, code := none }
def k7c1 : Code := { maxStack := 2, maxLocals := 3, code := jdk_42_method_66_code, exceptionTable := #[], attributes := #[] }
def k7m1 : Method := { name := "equals", desc := "(Ljava/lang/Object;)Z", sig := { parameters := [(.object "java/lang/Object")], returnType := some .boolean }, accessFlags := 1, code := some k7c1 }
def k7c2 : Code := { maxStack := 4, maxLocals := 1, code := jdk_42_method_139_code, exceptionTable := #[], attributes := #[] }
def k7m2 : Method := { name := "valueOf", desc := "(C)Ljava/lang/String;", sig := { parameters := [.char], returnType := some (.object "java/lang/String") }, accessFlags := 9, code := some k7c2 }
def k7c3 : Code := { maxStack := 2, maxLocals := 3, code := jdk_42_method_151_code, exceptionTable := #[], attributes := #[] }
def k7m3 : Method := { name := "<init>", desc := "([BB)V", sig := { parameters := [(.array .byte), .byte], returnType := none }, accessFlags := 0, code := some k7c3 }
/-- java/lang/String -/
def k7 : Class := { plain "java/lang/String" (some 0) with
  accessFlags := 49
  interfaces := #[2, 3, 4, 5, 6]
  cf := some (fileOf pool7 10 #[.nestMembers #[1103]] #[{ accessFlags := 1, nameIndex := 5, descriptorIndex := 6, attributes := #[] }, { accessFlags := 1, nameIndex := 543, descriptorIndex := 573, attributes := #[] }, { accessFlags := 9, nameIndex := 782, descriptorIndex := 783, attributes := #[] }, { accessFlags := 0, nameIndex := 5, descriptorIndex := 211, attributes := #[] }] 49 2 #[1106, 1108, 575, 1110, 1112] #[{ accessFlags := 18, nameIndex := 13, descriptorIndex := 14, attributes := #[] }, { accessFlags := 18, nameIndex := 17, descriptorIndex := 18, attributes := #[] }, { accessFlags := 2, nameIndex := 21, descriptorIndex := 22, attributes := #[] }, { accessFlags := 2, nameIndex := 25, descriptorIndex := 26, attributes := #[] }, { accessFlags := 26, nameIndex := 1116, descriptorIndex := 1117, attributes := #[] }, { accessFlags := 24, nameIndex := 40, descriptorIndex := 26, attributes := #[] }, { accessFlags := 26, nameIndex := 1101, descriptorIndex := 1102, attributes := #[] }, { accessFlags := 26, nameIndex := 1121, descriptorIndex := 1122, attributes := #[] }, { accessFlags := 25, nameIndex := 599, descriptorIndex := 600, attributes := #[] }, { accessFlags := 24, nameIndex := 1125, descriptorIndex := 18, attributes := #[] }, { accessFlags := 24, nameIndex := 1127, descriptorIndex := 18, attributes := #[] }])
  fields := #[{ name := "value", type := (.array .byte), accessFlags := 18, slot := 0, constantValue := 0 }, { name := "coder", type := .byte, accessFlags := 18, slot := 1, constantValue := 0 }, { name := "hash", type := .int, accessFlags := 2, slot := 2, constantValue := 0 }, { name := "hashIsZero", type := .boolean, accessFlags := 2, slot := 3, constantValue := 0 }, { name := "serialVersionUID", type := .long, accessFlags := 26, slot := 0, constantValue := 0 }, { name := "COMPACT_STRINGS", type := .boolean, accessFlags := 24, slot := 1, constantValue := 0 }, { name := "serialPersistentFields", type := (.array (.object "java/io/ObjectStreamField")), accessFlags := 26, slot := 2, constantValue := 0 }, { name := "REPL", type := .char, accessFlags := 26, slot := 3, constantValue := 0 }, { name := "CASE_INSENSITIVE_ORDER", type := (.object "java/util/Comparator"), accessFlags := 25, slot := 4, constantValue := 0 }, { name := "LATIN1", type := .byte, accessFlags := 24, slot := 5, constantValue := 0 }, { name := "UTF16", type := .byte, accessFlags := 24, slot := 6, constantValue := 0 }]
  methods := #[k7m0, k7m1, k7m2, k7m3]
  instanceTypes := #[(.array .byte), .byte, .int, .boolean]
  staticTypes := #[.long, .boolean, (.array (.object "java/io/ObjectStreamField")), .char, (.object "java/util/Comparator"), .byte, .byte]
  resolved := Array.replicate 1451 none
  statics := some 0 }

def pool8 : Array CpInfo := pool [(4, .class_ 6), (1, u "java/lang/Object"), (0, u "<init>"), (0, u "()V"), (5, .class_ 16), (1, u "java/lang/StringLatin1"), (73, u "canEncode"), (14, u "(C)Z"), (15, u "$assertionsDisabled"), (0, u "Z"), (98, .class_ 223), (1, u "java/lang/StringLatin1$LinesSpliterator"), (156, u "toBytes"), (1, u "(C)[B"), (7, .class_ 391), (0, u "java/lang/StringLatin1$CharsSpliterator")] 3

def k8m0 : Method := { name := "<init>", desc := "()V", sig := { parameters := [], returnType := none }, accessFlags := 0, code := none }
def k8c1 : Code := { maxStack := 2, maxLocals := 1, code := jdk_43_method_3_code, exceptionTable := #[], attributes := #[] }
def k8m1 : Method := { name := "canEncode", desc := "(C)Z", sig := { parameters := [.char], returnType := some .boolean }, accessFlags := 9, code := some k8c1 }
def k8c2 : Code := { maxStack := 4, maxLocals := 1, code := jdk_43_method_46_code, exceptionTable := #[], attributes := #[] }
def k8m2 : Method := { name := "toBytes", desc := "(C)[B", sig := { parameters := [.char], returnType := some (.array .byte) }, accessFlags := 9, code := some k8c2 }
/-- java/lang/StringLatin1 -/
def k8 : Class := { plain "java/lang/StringLatin1" (some 0) with
  accessFlags := 48
  interfaces := #[]
  cf := some (fileOf pool8 14 #[.nestMembers #[390, 221]] #[{ accessFlags := 0, nameIndex := 7, descriptorIndex := 8, attributes := #[] }, { accessFlags := 9, nameIndex := 90, descriptorIndex := 105, attributes := #[] }, { accessFlags := 9, nameIndex := 380, descriptorIndex := 382, attributes := #[] }] 48 4 #[] #[{ accessFlags := 4120, nameIndex := 121, descriptorIndex := 122, attributes := #[] }])
  fields := #[{ name := "$assertionsDisabled", type := .boolean, accessFlags := 4120, slot := 0, constantValue := 0 }]
  methods := #[k8m0, k8m1, k8m2]
  instanceTypes := #[]
  staticTypes := #[.boolean]
  resolved := Array.replicate 395 none
  statics := none }

def pool9 : Array CpInfo := pool [(1, .methodref 2 3), (0, .class_ 4), (0, .nameAndType 5 6), (0, u "java/lang/Object"), (0, u "<init>"), (0, u "()V"), (0, .class_ 8), (0, u "java/util/ArrayList"), (0, .methodref 7 3), (0, .fieldref 11 12), (0, .class_ 13), (0, .nameAndType 14 15), (0, u "com/example/bouncer/bouncer/cli/Arguments"), (0, u "operands"), (0, u "Ljava/util/List;"), (0, .fieldref 11 17), (0, .nameAndType 18 19), (0, u "command"), (0, u "Ljava/lang/String;"), (0, .fieldref 11 21), (0, .nameAndType 22 19), (0, u "usage"), (0, .methodref 24 25), (0, .class_ 26), (0, .nameAndType 27 28), (0, u "[Ljava/lang/String;"), (0, u "clone"), (0, u "()Ljava/lang/Object;"), (0, .fieldref 11 30), (0, .nameAndType 31 26), (0, u "arguments"), (0, .fieldref 11 33), (0, .nameAndType 34 35), (0, u "maxOperands"), (0, u "I"), (0, .fieldref 11 37), (0, .nameAndType 38 35), (0, u "next"), (2, u "hasNext"), (0, u "()Z"), (10, u "()Ljava/lang/String;"), (100, u "(Ljava/lang/String;Ljava/lang/String;[Ljava/lang/String;I)V")] 43

def k9c0 : Code := { maxStack := 3, maxLocals := 5, code := prog_26_method_1_code, exceptionTable := #[], attributes := #[] }
def k9m0 : Method := { name := "<init>", desc := "(Ljava/lang/String;Ljava/lang/String;[Ljava/lang/String;I)V", sig := { parameters := [(.object "java/lang/String"), (.object "java/lang/String"), (.array (.object "java/lang/String")), .int], returnType := none }, accessFlags := 0, code := some k9c0 }
def k9c1 : Code := { maxStack := 2, maxLocals := 1, code := prog_26_method_2_code, exceptionTable := #[], attributes := #[] }
def k9m1 : Method := { name := "hasNext", desc := "()Z", sig := { parameters := [], returnType := some .boolean }, accessFlags := 0, code := some k9c1 }
def k9c2 : Code := { maxStack := 5, maxLocals := 1, code := prog_26_method_3_code, exceptionTable := #[], attributes := #[] }
def k9m2 : Method := { name := "next", desc := "()Ljava/lang/String;", sig := { parameters := [], returnType := some (.object "java/lang/String") }, accessFlags := 0, code := some k9c2 }
/-- com/example/bouncer/bouncer/cli/Arguments -/
def k9 : Class := { plain "com/example/bouncer/bouncer/cli/Arguments" (some 0) with
  accessFlags := 48
  interfaces := #[]
  cf := some (fileOf pool9 11 #[] #[{ accessFlags := 0, nameIndex := 5, descriptorIndex := 154, attributes := #[] }, { accessFlags := 0, nameIndex := 41, descriptorIndex := 42, attributes := #[] }, { accessFlags := 0, nameIndex := 38, descriptorIndex := 53, attributes := #[] }] 48 2 #[] #[{ accessFlags := 18, nameIndex := 18, descriptorIndex := 19, attributes := #[] }, { accessFlags := 18, nameIndex := 22, descriptorIndex := 19, attributes := #[] }, { accessFlags := 18, nameIndex := 31, descriptorIndex := 26, attributes := #[] }, { accessFlags := 18, nameIndex := 34, descriptorIndex := 35, attributes := #[] }, { accessFlags := 18, nameIndex := 14, descriptorIndex := 15, attributes := #[] }, { accessFlags := 2, nameIndex := 38, descriptorIndex := 35, attributes := #[] }])
  fields := #[{ name := "command", type := (.object "java/lang/String"), accessFlags := 18, slot := 0, constantValue := 0 }, { name := "usage", type := (.object "java/lang/String"), accessFlags := 18, slot := 1, constantValue := 0 }, { name := "arguments", type := (.array (.object "java/lang/String")), accessFlags := 18, slot := 2, constantValue := 0 }, { name := "maxOperands", type := .int, accessFlags := 18, slot := 3, constantValue := 0 }, { name := "operands", type := (.object "java/util/List"), accessFlags := 18, slot := 4, constantValue := 0 }, { name := "next", type := .int, accessFlags := 2, slot := 5, constantValue := 0 }]
  methods := #[k9m0, k9m1, k9m2]
  instanceTypes := #[(.object "java/lang/String"), (.object "java/lang/String"), (.array (.object "java/lang/String")), .int, (.object "java/util/List"), .int]
  staticTypes := #[]
  resolved := Array.replicate 198 none
  statics := none }

def pool10 : Array CpInfo := pool [(8, .class_ 10), (1, u "java/lang/Iterable"), (24, .class_ 36), (0, u "java/lang/Object")] 25

/-- java/lang/Iterable -/
def k10 : Class := { plain "java/lang/Iterable" (some 0) with
  accessFlags := 1537
  interfaces := #[]
  cf := some (fileOf pool10 8 #[] #[] 1537 35 #[] #[])
  fields := #[]
  methods := #[]
  instanceTypes := #[]
  staticTypes := #[]
  resolved := Array.replicate 62 none
  statics := none }

def pool11 : Array CpInfo := pool [(10, .class_ 12), (1, u "java/util/Collection"), (47, .class_ 61), (0, u "java/lang/Object"), (0, .class_ 63), (0, u "java/lang/Iterable")] 51

/-- java/util/Collection -/
def k11 : Class := { plain "java/util/Collection" (some 0) with
  accessFlags := 1537
  interfaces := #[10]
  cf := some (fileOf pool11 10 #[] #[] 1537 60 #[62] #[])
  fields := #[]
  methods := #[]
  instanceTypes := #[]
  staticTypes := #[]
  resolved := Array.replicate 115 none
  statics := none }

def pool12 : Array CpInfo := pool [(1, .methodref 2 3), (0, .class_ 4), (0, .nameAndType 5 6), (0, u "java/lang/Object"), (0, u "<init>"), (0, u "()V"), (1, .class_ 10), (1, u "java/util/AbstractCollection"), (66, .class_ 78), (0, u "java/util/Collection")] 81

def k12c0 : Code := { maxStack := 1, maxLocals := 1, code := jdk_22_method_1_code, exceptionTable := #[], attributes := #[] }
def k12m0 : Method := { name := "<init>", desc := "()V", sig := { parameters := [], returnType := none }, accessFlags := 4, code := some k12c0 }
/-- java/util/AbstractCollection -/
def k12 : Class := { plain "java/util/AbstractCollection" (some 0) with
  accessFlags := 1057
  interfaces := #[11]
  cf := some (fileOf pool12 8 #[] #[{ accessFlags := 4, nameIndex := 5, descriptorIndex := 6, attributes := #[] }] 1057 2 #[77] #[])
  fields := #[]
  methods := #[k12m0]
  instanceTypes := #[]
  staticTypes := #[]
  resolved := Array.replicate 160 none
  statics := none }

def pool13 : Array CpInfo := pool [(8, .class_ 10), (1, u "java/util/SequencedCollection"), (15, .class_ 27), (0, u "java/lang/Object"), (0, .class_ 29), (0, u "java/util/Collection")] 27

/-- java/util/SequencedCollection -/
def k13 : Class := { plain "java/util/SequencedCollection" (some 0) with
  accessFlags := 1537
  interfaces := #[11]
  cf := some (fileOf pool13 8 #[] #[] 1537 26 #[28] #[])
  fields := #[]
  methods := #[]
  instanceTypes := #[]
  staticTypes := #[]
  resolved := Array.replicate 57 none
  statics := none }

def pool14 : Array CpInfo := pool [(8, .class_ 10), (1, u "java/util/List"), (92, .class_ 104), (0, u "java/lang/Object"), (15, .class_ 121), (0, u "java/util/SequencedCollection")] 129

/-- java/util/List -/
def k14 : Class := { plain "java/util/List" (some 0) with
  accessFlags := 1537
  interfaces := #[13]
  cf := some (fileOf pool14 8 #[] #[] 1537 103 #[120] #[])
  fields := #[]
  methods := #[]
  instanceTypes := #[]
  staticTypes := #[]
  resolved := Array.replicate 251 none
  statics := none }

def pool15 : Array CpInfo := pool [(1, .methodref 2 3), (0, .class_ 4), (0, .nameAndType 5 6), (0, u "java/util/AbstractCollection"), (0, u "<init>"), (0, u "()V"), (0, .fieldref 8 9), (0, .class_ 10), (0, .nameAndType 11 12), (0, u "java/util/AbstractList"), (0, u "modCount"), (0, u "I"), (64, .class_ 78), (0, u "java/util/AbstractList$Itr"), (3, .class_ 83), (0, u "java/util/AbstractList$ListItr"), (9, .class_ 94), (0, u "java/util/AbstractList$RandomAccessSubList"), (3, .class_ 99), (0, u "java/util/AbstractList$SubList"), (33, .class_ 134), (0, u "java/util/List"), (73, .class_ 209), (0, u "java/util/AbstractList$SubList$1"), (0, .class_ 211), (0, u "java/util/AbstractList$RandomAccessSpliterator")] 6

def k15c0 : Code := { maxStack := 2, maxLocals := 1, code := jdk_39_method_1_code, exceptionTable := #[], attributes := #[] }
def k15m0 : Method := { name := "<init>", desc := "()V", sig := { parameters := [], returnType := none }, accessFlags := 4, code := some k15c0 }
/-- java/util/AbstractList -/
def k15 : Class := { plain "java/util/AbstractList" (some 12) with
  accessFlags := 1057
  interfaces := #[14]
  cf := some (fileOf pool15 8 #[.nestMembers #[93, 98, 208, 210, 82, 77]] #[{ accessFlags := 4, nameIndex := 5, descriptorIndex := 6, attributes := #[] }] 1057 2 #[133] #[{ accessFlags := 132, nameIndex := 11, descriptorIndex := 12, attributes := #[] }])
  fields := #[{ name := "modCount", type := .int, accessFlags := 132, slot := 0, constantValue := 0 }]
  methods := #[k15m0]
  instanceTypes := #[.int]
  staticTypes := #[]
  resolved := Array.replicate 218 none
  statics := none }

def pool16 : Array CpInfo := pool [(1, .class_ 2), (0, u "java/util/RandomAccess"), (0, .class_ 4), (0, u "java/lang/Object")] 2

/-- java/util/RandomAccess -/
def k16 : Class := { plain "java/util/RandomAccess" (some 0) with
  accessFlags := 1537
  interfaces := #[]
  cf := some (fileOf pool16 1 #[] #[] 1537 3 #[] #[])
  fields := #[]
  methods := #[]
  instanceTypes := #[]
  staticTypes := #[]
  resolved := Array.replicate 7 none
  statics := none }

def pool17 : Array CpInfo := pool [(1, .class_ 2), (0, u "java/lang/Cloneable"), (0, .class_ 4), (0, u "java/lang/Object")] 2

/-- java/lang/Cloneable -/
def k17 : Class := { plain "java/lang/Cloneable" (some 0) with
  accessFlags := 1537
  interfaces := #[]
  cf := some (fileOf pool17 1 #[] #[] 1537 3 #[] #[])
  fields := #[]
  methods := #[]
  instanceTypes := #[]
  staticTypes := #[]
  resolved := Array.replicate 7 none
  statics := none }

def pool18 : Array CpInfo := pool [(1, .methodref 2 3), (0, .class_ 4), (0, .nameAndType 5 6), (0, u "java/util/AbstractList"), (0, u "<init>"), (0, u "()V"), (2, .fieldref 10 11), (0, .class_ 12), (0, .nameAndType 13 14), (0, u "java/util/ArrayList"), (0, u "elementData"), (0, u "[Ljava/lang/Object;"), (2, u "EMPTY_ELEMENTDATA"), (21, .fieldref 10 40), (0, .nameAndType 41 14), (0, u "DEFAULTCAPACITY_EMPTY_ELEMENTDATA"), (8, u "size"), (0, u "I"), (96, .class_ 149), (0, u "java/util/List"), (112, .class_ 263), (0, u "java/util/ArrayList$ListItr"), (3, .class_ 268), (0, u "java/util/ArrayList$Itr"), (7, .class_ 277), (0, u "java/util/ArrayList$SubList"), (12, .class_ 291), (0, u "java/util/ArrayList$ArrayListSpliterator"), (37, .class_ 330), (0, u "java/util/RandomAccess"), (0, .class_ 332), (0, u "java/lang/Cloneable"), (0, .class_ 334), (0, u "java/io/Serializable"), (0, u "serialVersionUID"), (0, u "J"), (3, u "DEFAULT_CAPACITY"), (159, .class_ 501), (0, u "java/util/ArrayList$SubList$2"), (0, .class_ 503), (0, u "java/util/ArrayList$SubList$1")] 5

def k18c0 : Code := { maxStack := 2, maxLocals := 1, code := jdk_38_method_2_code, exceptionTable := #[], attributes := #[] }
def k18m0 : Method := { name := "<init>", desc := "()V", sig := { parameters := [], returnType := none }, accessFlags := 1, code := some k18c0 }
/-- java/util/ArrayList -/
def k18 : Class := { plain "java/util/ArrayList" (some 15) with
  accessFlags := 33
  interfaces := #[14, 16, 17, 2]
  cf := some (fileOf pool18 10 #[.nestMembers #[290, 276, 500, 502, 262, 267]] #[{ accessFlags := 1, nameIndex := 5, descriptorIndex := 6, attributes := #[] }] 33 2 #[148, 329, 331, 333] #[{ accessFlags := 26, nameIndex := 335, descriptorIndex := 336, attributes := #[] }, { accessFlags := 26, nameIndex := 340, descriptorIndex := 51, attributes := #[] }, { accessFlags := 26, nameIndex := 17, descriptorIndex := 14, attributes := #[] }, { accessFlags := 26, nameIndex := 41, descriptorIndex := 14, attributes := #[] }, { accessFlags := 128, nameIndex := 13, descriptorIndex := 14, attributes := #[] }, { accessFlags := 2, nameIndex := 50, descriptorIndex := 51, attributes := #[] }])
  fields := #[{ name := "serialVersionUID", type := .long, accessFlags := 26, slot := 0, constantValue := 0 }, { name := "DEFAULT_CAPACITY", type := .int, accessFlags := 26, slot := 1, constantValue := 0 }, { name := "EMPTY_ELEMENTDATA", type := (.array (.object "java/lang/Object")), accessFlags := 26, slot := 2, constantValue := 0 }, { name := "DEFAULTCAPACITY_EMPTY_ELEMENTDATA", type := (.array (.object "java/lang/Object")), accessFlags := 26, slot := 3, constantValue := 0 }, { name := "elementData", type := (.array (.object "java/lang/Object")), accessFlags := 128, slot := 1, constantValue := 0 }, { name := "size", type := .int, accessFlags := 2, slot := 2, constantValue := 0 }]
  methods := #[k18m0]
  instanceTypes := #[.int, (.array (.object "java/lang/Object")), .int]
  staticTypes := #[.long, .int, (.array (.object "java/lang/Object")), (.array (.object "java/lang/Object"))]
  resolved := Array.replicate 509 none
  statics := some 1 }

def pool19 : Array CpInfo := pool [(2, .class_ 4), (1, u "java/lang/Object"), (0, u "<init>"), (0, u "()V"), (17, .class_ 26), (1, u "jdk/internal/util/Preconditions"), (28, .class_ 56), (0, u "jdk/internal/util/Preconditions$4"), (57, .class_ 115), (0, u "jdk/internal/util/Preconditions$1"), (7, u "SIOOBE_FORMATTER"), (0, u "Ljava/util/function/BiFunction;"), (0, .class_ 126), (0, u "jdk/internal/util/Preconditions$2"), (3, u "AIOOBE_FORMATTER"), (0, .class_ 132), (0, u "jdk/internal/util/Preconditions$3"), (3, u "IOOBE_FORMATTER")] 57

def k19m0 : Method := { name := "<init>", desc := "()V", sig := { parameters := [], returnType := none }, accessFlags := 1, code := none }
/-- jdk/internal/util/Preconditions -/
def k19 : Class := { plain "jdk/internal/util/Preconditions" (some 0) with
  accessFlags := 33
  interfaces := #[]
  cf := some (fileOf pool19 24 #[.nestMembers #[55, 131, 125, 114]] #[{ accessFlags := 1, nameIndex := 5, descriptorIndex := 6, attributes := #[] }] 33 2 #[] #[{ accessFlags := 25, nameIndex := 123, descriptorIndex := 124, attributes := #[] }, { accessFlags := 25, nameIndex := 130, descriptorIndex := 124, attributes := #[] }, { accessFlags := 25, nameIndex := 136, descriptorIndex := 124, attributes := #[] }])
  fields := #[{ name := "SIOOBE_FORMATTER", type := (.object "java/util/function/BiFunction"), accessFlags := 25, slot := 0, constantValue := 0 }, { name := "AIOOBE_FORMATTER", type := (.object "java/util/function/BiFunction"), accessFlags := 25, slot := 1, constantValue := 0 }, { name := "IOOBE_FORMATTER", type := (.object "java/util/function/BiFunction"), accessFlags := 25, slot := 2, constantValue := 0 }]
  methods := #[k19m0]
  instanceTypes := #[]
  staticTypes := #[(.object "java/util/function/BiFunction"), (.object "java/util/function/BiFunction"), (.object "java/util/function/BiFunction")]
  resolved := Array.replicate 194 none
  statics := some 2 }

def pool20 : Array CpInfo := pool [(9, u "<init>"), (6, .class_ 18), (1, u "java/lang/Object"), (0, u "()V"), (1, .class_ 23), (1, u "jdk/internal/util/ArraysSupport"), (0, u "LOG2_ARRAY_LONG_INDEX_SCALE"), (0, u "I"), (2, u "U"), (0, u "Ljdk/internal/misc/Unsafe;"), (8, u "BIG_ENDIAN"), (0, u "Z"), (8, u "LOG2_BYTE_BIT_SIZE"), (4, u "LOG2_ARRAY_INT_INDEX_SCALE"), (54, u "JLA"), (0, u "Ljdk/internal/access/JavaLangAccess;"), (11, u "LOG2_ARRAY_BOOLEAN_INDEX_SCALE"), (9, u "LOG2_ARRAY_BYTE_INDEX_SCALE"), (5, u "LOG2_ARRAY_CHAR_INDEX_SCALE"), (5, u "LOG2_ARRAY_SHORT_INDEX_SCALE"), (18, u "LOG2_ARRAY_FLOAT_INDEX_SCALE"), (24, u "LOG2_ARRAY_DOUBLE_INDEX_SCALE"), (89, u "T_BOOLEAN"), (2, u "T_CHAR"), (1, u "T_FLOAT"), (1, u "T_DOUBLE"), (1, u "T_BYTE"), (1, u "T_SHORT"), (1, u "T_INT"), (1, u "T_LONG"), (1, u "SOFT_MAX_ARRAY_LENGTH")] 83

def k20m0 : Method := { name := "<init>", desc := "()V", sig := { parameters := [], returnType := none }, accessFlags := 2, code := none }
/-- jdk/internal/util/ArraysSupport -/
def k20 : Class := { plain "jdk/internal/util/ArraysSupport" (some 0) with
  accessFlags := 33
  interfaces := #[]
  cf := some (fileOf pool20 21 #[] #[{ accessFlags := 2, nameIndex := 9, descriptorIndex := 19, attributes := #[] }] 33 16 #[] #[{ accessFlags := 24, nameIndex := 28, descriptorIndex := 29, attributes := #[] }, { accessFlags := 26, nameIndex := 38, descriptorIndex := 39, attributes := #[] }, { accessFlags := 25, nameIndex := 121, descriptorIndex := 25, attributes := #[] }, { accessFlags := 25, nameIndex := 131, descriptorIndex := 25, attributes := #[] }, { accessFlags := 25, nameIndex := 137, descriptorIndex := 25, attributes := #[] }, { accessFlags := 25, nameIndex := 143, descriptorIndex := 25, attributes := #[] }, { accessFlags := 25, nameIndex := 53, descriptorIndex := 25, attributes := #[] }, { accessFlags := 25, nameIndex := 24, descriptorIndex := 25, attributes := #[] }, { accessFlags := 25, nameIndex := 162, descriptorIndex := 25, attributes := #[] }, { accessFlags := 25, nameIndex := 187, descriptorIndex := 25, attributes := #[] }, { accessFlags := 26, nameIndex := 48, descriptorIndex := 25, attributes := #[] }, { accessFlags := 25, nameIndex := 277, descriptorIndex := 25, attributes := #[] }, { accessFlags := 25, nameIndex := 280, descriptorIndex := 25, attributes := #[] }, { accessFlags := 25, nameIndex := 282, descriptorIndex := 25, attributes := #[] }, { accessFlags := 25, nameIndex := 284, descriptorIndex := 25, attributes := #[] }, { accessFlags := 25, nameIndex := 286, descriptorIndex := 25, attributes := #[] }, { accessFlags := 25, nameIndex := 288, descriptorIndex := 25, attributes := #[] }, { accessFlags := 25, nameIndex := 290, descriptorIndex := 25, attributes := #[] }, { accessFlags := 25, nameIndex := 292, descriptorIndex := 25, attributes := #[] }, { accessFlags := 26, nameIndex := 108, descriptorIndex := 109, attributes := #[] }, { accessFlags := 25, nameIndex := 294, descriptorIndex := 25, attributes := #[] }])
  fields := #[{ name := "U", type := (.object "jdk/internal/misc/Unsafe"), accessFlags := 24, slot := 0, constantValue := 0 }, { name := "BIG_ENDIAN", type := .boolean, accessFlags := 26, slot := 1, constantValue := 0 }, { name := "LOG2_ARRAY_BOOLEAN_INDEX_SCALE", type := .int, accessFlags := 25, slot := 2, constantValue := 0 }, { name := "LOG2_ARRAY_BYTE_INDEX_SCALE", type := .int, accessFlags := 25, slot := 3, constantValue := 0 }, { name := "LOG2_ARRAY_CHAR_INDEX_SCALE", type := .int, accessFlags := 25, slot := 4, constantValue := 0 }, { name := "LOG2_ARRAY_SHORT_INDEX_SCALE", type := .int, accessFlags := 25, slot := 5, constantValue := 0 }, { name := "LOG2_ARRAY_INT_INDEX_SCALE", type := .int, accessFlags := 25, slot := 6, constantValue := 0 }, { name := "LOG2_ARRAY_LONG_INDEX_SCALE", type := .int, accessFlags := 25, slot := 7, constantValue := 0 }, { name := "LOG2_ARRAY_FLOAT_INDEX_SCALE", type := .int, accessFlags := 25, slot := 8, constantValue := 0 }, { name := "LOG2_ARRAY_DOUBLE_INDEX_SCALE", type := .int, accessFlags := 25, slot := 9, constantValue := 0 }, { name := "LOG2_BYTE_BIT_SIZE", type := .int, accessFlags := 26, slot := 10, constantValue := 0 }, { name := "T_BOOLEAN", type := .int, accessFlags := 25, slot := 11, constantValue := 0 }, { name := "T_CHAR", type := .int, accessFlags := 25, slot := 12, constantValue := 0 }, { name := "T_FLOAT", type := .int, accessFlags := 25, slot := 13, constantValue := 0 }, { name := "T_DOUBLE", type := .int, accessFlags := 25, slot := 14, constantValue := 0 }, { name := "T_BYTE", type := .int, accessFlags := 25, slot := 15, constantValue := 0 }, { name := "T_SHORT", type := .int, accessFlags := 25, slot := 16, constantValue := 0 }, { name := "T_INT", type := .int, accessFlags := 25, slot := 17, constantValue := 0 }, { name := "T_LONG", type := .int, accessFlags := 25, slot := 18, constantValue := 0 }, { name := "JLA", type := (.object "jdk/internal/access/JavaLangAccess"), accessFlags := 26, slot := 19, constantValue := 0 }, { name := "SOFT_MAX_ARRAY_LENGTH", type := .int, accessFlags := 25, slot := 20, constantValue := 0 }]
  methods := #[k20m0]
  instanceTypes := #[]
  staticTypes := #[(.object "jdk/internal/misc/Unsafe"), .boolean, .int, .int, .int, .int, .int, .int, .int, .int, .int, .int, .int, .int, .int, .int, .int, .int, .int, (.object "jdk/internal/access/JavaLangAccess"), .int]
  resolved := Array.replicate 378 none
  statics := none }

/-- the primitive byte -/
def k21 : Class := { plain "byte" none with kind := .primitive 'B', accessFlags := 0x411 }
/-- [B -/
def k22 : Class := { plain "[B" (some 0) with kind := .array 21 .byte, interfaces := #[17, 2], accessFlags := 1041 }

/-- the primitive int -/
def k23 : Class := { plain "int" none with kind := .primitive 'I', accessFlags := 0x411 }
/-- [I -/
def k24 : Class := { plain "[I" (some 0) with kind := .array 23 .int, interfaces := #[17, 2], accessFlags := 1041 }

/-- [Ljava/lang/Object; -/
def k25 : Class := { plain "[Ljava/lang/Object;" (some 0) with kind := .array 0 (.object "java/lang/Object"), interfaces := #[17, 2], accessFlags := 1041 }

/-- [Ljava/lang/String; -/
def k26 : Class := { plain "[Ljava/lang/String;" (some 0) with kind := .array 7 (.object "java/lang/String"), interfaces := #[17, 2], accessFlags := 1041 }

def heap : Heap := #[{ cls := 7, slots := #[.long 0, .int 1, .null, .int 0, .null, .int 0, .int 0], vm := .statics 7 },
  { cls := 18, slots := #[.long 0, .int 0, .ref 3, .ref 4], vm := .statics 18 },
  { cls := 19, slots := #[.null, .null, .null], vm := .statics 19 },
  { cls := 25, slots := #[], vm := .none },
  { cls := 25, slots := #[], vm := .none }]
def classes : Array Class := #[k0, k1, k2, k3, k4, k5, k6, k7, k8, k9, k10, k11, k12, k13, k14, k15, k16, k17, k18, k19, k20, k21, k22, k23, k24, k25, k26]
def interned : List (Array UInt16 × Addr) := []
def slotsUsed : Nat := 14
def theMethod : MethodId := ⟨1, 1⟩
def args0 : Array Value := #[.int 5, .int 7, .int 9, .int 1, .int 4]
def aboutOver (below : List Frame) : State where
  vm := { classes := classes, interned := interned.toArray }
  heap := heap
  slotsUsed := slotsUsed
  threads := #[{ frames := .invoking theMethod args0 :: below }]
def below0 : List Frame := [.native { method := ⟨0, 0⟩, args := #[] }]
def about1 : State := aboutOver below0
def p0 : Program := .bare "" "" ""
def e0 : Env := launch0.env 0 0 0
theorem w_frames : about1.frames = Frame.invoking theMethod args0 :: below0 := rfl
set_option maxRecDepth 65536 in
theorem w_args : argsFit about1.vm theMethod args0 = true := by decide +kernel
set_option maxRecDepth 65536 in
theorem w_heap : heapFits about1 = true := by decide +kernel
set_option maxRecDepth 65536 in
theorem w_runnable : about1.curStatus? = some .runnable := by decide +kernel
set_option maxRecDepth 65536 in
theorem w_alone : about1.alone = true := by decide +kernel
set_option maxRecDepth 65536 in
theorem w_named : about1.methodNamed? x = some theMethod := by decide +kernel
set_option maxRecDepth 65536 in
theorem w_hears : about1.hears theMethod below0 = true := by decide +kernel
set_option maxRecDepth 65536 in
theorem w_ripe : about1.ripe theMethod args0 below0 = true := by decide +kernel
theorem w_running : about1.status = .running := rfl
set_option maxRecDepth 65536 in
theorem w_room : about1.hasRoom e0.platform room_1 = true :=
  launch0.hasRoom_least _ room_1 (by decide +kernel) (by decide +kernel) (by decide +kernel) (by decide +kernel) (by decide +kernel) (by decide +kernel)
theorem allAtoms_all (ts : List Jvm.Cond) (a : Array Jvm.Value) (st : Jvm.State) : (allAtoms ts).before a st = ts.all (fun c => c.before a st) := by
  induction ts with
  | nil => rfl
  | cons c t ih =>
    show (Jvm.Cond.and c (allAtoms t)).before a st = _
    rw [Jvm.Cond.before_and, ih, List.all_cons]
def words1 : List Jvm.Cond := Jvm.Cond.code x code maxLocals ret :: tables_1
/-- a 'code' word, met by the world's own term for the bytes: nothing is compared byte by byte -/
theorem code_word {y : MethodName} {bytes : ByteArray} {mx : Nat} {rt : Option FieldType} {a : Array Value} {s : State} {m : MethodId} {meth : Method} {c : Code} (h1 : s.methodNamed? y = some m) (h2 : s.vm.method? m = some meth) (h3 : meth.code = some c) (h4 : c.code = bytes)
    (h5 : (c.maxLocals == mx && c.exceptionTable.isEmpty && decide (c.maxStack ≤ mostOperands) && decide (meth.sig.returnType = rt) && !meth.locks && decide (parseMethodDescriptor y.desc = some meth.sig)) = true) : (Jvm.Cond.code y bytes mx rt).before a s = true := by
  simp only [Bool.and_eq_true, beq_iff_eq, Bool.not_eq_true', decide_eq_true_eq] at h5
  obtain ⟨⟨⟨⟨⟨g1, g2⟩, g3⟩, g4⟩, g5⟩, g6⟩ := h5
  simp [Cond.before, Cond.holds, Cond.value, h1, h2, h3, h4, g1, g2, g3, g4, g5, g6]
def isCode : Jvm.Cond → Bool
  | .code _ _ _ _ => true
  | _ => false
theorem all_split {L : List Jvm.Cond} {P : Jvm.Cond → Bool} (h1 : L.all (fun c => isCode c || P c) = true) (h2 : ∀ c ∈ L.filter isCode, P c = true) : L.all P = true := by
  refine List.all_eq_true.mpr fun c hc => ?_
  have h := List.all_eq_true.mp h1 c hc
  rcases Bool.eq_false_or_eq_true (isCode c) with hi | hi
  · exact h2 c (List.mem_filter.mpr ⟨hc, hi⟩)
  · simpa [hi] using h
set_option maxRecDepth 65536 in
theorem w_c0 : (Jvm.Cond.code x code maxLocals ret).before args0 about1 = true := code_word (m := ⟨1, 1⟩) (meth := k1m1) (c := k1c1) (by decide +kernel) rfl rfl rfl (by decide +kernel)
set_option maxRecDepth 65536 in
theorem w_c1 : (Jvm.Cond.code ({ cls := "java/lang/String", name := "valueOf", desc := "(C)Ljava/lang/String;" } : Jvm.MethodName) jdk_42_method_139_code (1 : Nat) (Option.some (Jvm.ClassFile.FieldType.object "java/lang/String"))).before args0 about1 = true := code_word (m := ⟨7, 2⟩) (meth := k7m2) (c := k7c2) (by decide +kernel) rfl rfl rfl (by decide +kernel)
set_option maxRecDepth 65536 in
theorem w_c2 : (Jvm.Cond.code ({ cls := "java/lang/StringLatin1", name := "canEncode", desc := "(C)Z" } : Jvm.MethodName) jdk_43_method_3_code (1 : Nat) (Option.some Jvm.ClassFile.FieldType.boolean)).before args0 about1 = true := code_word (m := ⟨8, 1⟩) (meth := k8m1) (c := k8c1) (by decide +kernel) rfl rfl rfl (by decide +kernel)
set_option maxRecDepth 65536 in
theorem w_c3 : (Jvm.Cond.code ({ cls := "java/lang/StringLatin1", name := "toBytes", desc := "(C)[B" } : Jvm.MethodName) jdk_43_method_46_code (1 : Nat) (Option.some (Jvm.ClassFile.FieldType.array Jvm.ClassFile.FieldType.byte))).before args0 about1 = true := code_word (m := ⟨8, 2⟩) (meth := k8m2) (c := k8c2) (by decide +kernel) rfl rfl rfl (by decide +kernel)
set_option maxRecDepth 65536 in
theorem w_c4 : (Jvm.Cond.code ({ cls := "java/lang/String", name := "<init>", desc := "([BB)V" } : Jvm.MethodName) jdk_42_method_151_code (3 : Nat) (Option.none : Option Jvm.ClassFile.FieldType)).before args0 about1 = true := code_word (m := ⟨7, 3⟩) (meth := k7m3) (c := k7c3) (by decide +kernel) rfl rfl rfl (by decide +kernel)
set_option maxRecDepth 65536 in
theorem w_c5 : (Jvm.Cond.code ({ cls := "java/lang/Object", name := "<init>", desc := "()V" } : Jvm.MethodName) object_method_1_code (1 : Nat) (Option.none : Option Jvm.ClassFile.FieldType)).before args0 about1 = true := code_word (m := ⟨0, 0⟩) (meth := k0m0) (c := k0c0) (by decide +kernel) rfl rfl rfl (by decide +kernel)
set_option maxRecDepth 65536 in
theorem w_c6 : (Jvm.Cond.code ({ cls := "com/example/bouncer/bouncer/cli/Arguments", name := "<init>", desc := "(Ljava/lang/String;Ljava/lang/String;[Ljava/lang/String;I)V" } : Jvm.MethodName) prog_26_method_1_code (5 : Nat) (Option.none : Option Jvm.ClassFile.FieldType)).before args0 about1 = true := code_word (m := ⟨9, 0⟩) (meth := k9m0) (c := k9c0) (by decide +kernel) rfl rfl rfl (by decide +kernel)
set_option maxRecDepth 65536 in
theorem w_c7 : (Jvm.Cond.code ({ cls := "java/util/ArrayList", name := "<init>", desc := "()V" } : Jvm.MethodName) jdk_38_method_2_code (1 : Nat) (Option.none : Option Jvm.ClassFile.FieldType)).before args0 about1 = true := code_word (m := ⟨18, 0⟩) (meth := k18m0) (c := k18c0) (by decide +kernel) rfl rfl rfl (by decide +kernel)
set_option maxRecDepth 65536 in
theorem w_c8 : (Jvm.Cond.code ({ cls := "java/util/AbstractList", name := "<init>", desc := "()V" } : Jvm.MethodName) jdk_39_method_1_code (1 : Nat) (Option.none : Option Jvm.ClassFile.FieldType)).before args0 about1 = true := code_word (m := ⟨15, 0⟩) (meth := k15m0) (c := k15c0) (by decide +kernel) rfl rfl rfl (by decide +kernel)
set_option maxRecDepth 65536 in
theorem w_c9 : (Jvm.Cond.code ({ cls := "java/util/AbstractCollection", name := "<init>", desc := "()V" } : Jvm.MethodName) jdk_22_method_1_code (1 : Nat) (Option.none : Option Jvm.ClassFile.FieldType)).before args0 about1 = true := code_word (m := ⟨12, 0⟩) (meth := k12m0) (c := k12c0) (by decide +kernel) rfl rfl rfl (by decide +kernel)
set_option maxRecDepth 65536 in
theorem w_c10 : (Jvm.Cond.code ({ cls := "com/example/bouncer/bouncer/cli/Arguments", name := "hasNext", desc := "()Z" } : Jvm.MethodName) prog_26_method_2_code (1 : Nat) (Option.some Jvm.ClassFile.FieldType.boolean)).before args0 about1 = true := code_word (m := ⟨9, 1⟩) (meth := k9m1) (c := k9c1) (by decide +kernel) rfl rfl rfl (by decide +kernel)
set_option maxRecDepth 65536 in
theorem w_c11 : (Jvm.Cond.code ({ cls := "com/example/bouncer/bouncer/cli/Arguments", name := "next", desc := "()Ljava/lang/String;" } : Jvm.MethodName) prog_26_method_3_code (1 : Nat) (Option.some (Jvm.ClassFile.FieldType.object "java/lang/String"))).before args0 about1 = true := code_word (m := ⟨9, 2⟩) (meth := k9m2) (c := k9c2) (by decide +kernel) rfl rfl rfl (by decide +kernel)
set_option maxRecDepth 65536 in
theorem w_c12 : (Jvm.Cond.code ({ cls := "java/lang/String", name := "equals", desc := "(Ljava/lang/Object;)Z" } : Jvm.MethodName) jdk_42_method_66_code (3 : Nat) (Option.some Jvm.ClassFile.FieldType.boolean)).before args0 about1 = true := code_word (m := ⟨7, 1⟩) (meth := k7m1) (c := k7c1) (by decide +kernel) rfl rfl rfl (by decide +kernel)
def codes1 : List Jvm.Cond := [Jvm.Cond.code x code maxLocals ret, Jvm.Cond.code ({ cls := "java/lang/String", name := "valueOf", desc := "(C)Ljava/lang/String;" } : Jvm.MethodName) jdk_42_method_139_code (1 : Nat) (Option.some (Jvm.ClassFile.FieldType.object "java/lang/String")), Jvm.Cond.code ({ cls := "java/lang/StringLatin1", name := "canEncode", desc := "(C)Z" } : Jvm.MethodName) jdk_43_method_3_code (1 : Nat) (Option.some Jvm.ClassFile.FieldType.boolean), Jvm.Cond.code ({ cls := "java/lang/StringLatin1", name := "toBytes", desc := "(C)[B" } : Jvm.MethodName) jdk_43_method_46_code (1 : Nat) (Option.some (Jvm.ClassFile.FieldType.array Jvm.ClassFile.FieldType.byte)), Jvm.Cond.code ({ cls := "java/lang/String", name := "<init>", desc := "([BB)V" } : Jvm.MethodName) jdk_42_method_151_code (3 : Nat) (Option.none : Option Jvm.ClassFile.FieldType), Jvm.Cond.code ({ cls := "java/lang/Object", name := "<init>", desc := "()V" } : Jvm.MethodName) object_method_1_code (1 : Nat) (Option.none : Option Jvm.ClassFile.FieldType), Jvm.Cond.code ({ cls := "com/example/bouncer/bouncer/cli/Arguments", name := "<init>", desc := "(Ljava/lang/String;Ljava/lang/String;[Ljava/lang/String;I)V" } : Jvm.MethodName) prog_26_method_1_code (5 : Nat) (Option.none : Option Jvm.ClassFile.FieldType), Jvm.Cond.code ({ cls := "java/util/ArrayList", name := "<init>", desc := "()V" } : Jvm.MethodName) jdk_38_method_2_code (1 : Nat) (Option.none : Option Jvm.ClassFile.FieldType), Jvm.Cond.code ({ cls := "java/util/AbstractList", name := "<init>", desc := "()V" } : Jvm.MethodName) jdk_39_method_1_code (1 : Nat) (Option.none : Option Jvm.ClassFile.FieldType), Jvm.Cond.code ({ cls := "java/util/AbstractCollection", name := "<init>", desc := "()V" } : Jvm.MethodName) jdk_22_method_1_code (1 : Nat) (Option.none : Option Jvm.ClassFile.FieldType), Jvm.Cond.code ({ cls := "com/example/bouncer/bouncer/cli/Arguments", name := "hasNext", desc := "()Z" } : Jvm.MethodName) prog_26_method_2_code (1 : Nat) (Option.some Jvm.ClassFile.FieldType.boolean), Jvm.Cond.code ({ cls := "com/example/bouncer/bouncer/cli/Arguments", name := "next", desc := "()Ljava/lang/String;" } : Jvm.MethodName) prog_26_method_3_code (1 : Nat) (Option.some (Jvm.ClassFile.FieldType.object "java/lang/String")), Jvm.Cond.code ({ cls := "java/lang/String", name := "equals", desc := "(Ljava/lang/Object;)Z" } : Jvm.MethodName) jdk_42_method_66_code (3 : Nat) (Option.some Jvm.ClassFile.FieldType.boolean)]
set_option maxRecDepth 65536 in
theorem codes_eq : words1.filter isCode = codes1 := rfl
theorem w_codes : ∀ c ∈ words1.filter isCode, c.before args0 about1 = true := by
  rw [codes_eq]
  intro c hc
  simp only [codes1, List.mem_cons, List.not_mem_nil, or_false] at hc
  rcases hc with rfl | rfl | rfl | rfl | rfl | rfl | rfl | rfl | rfl | rfl | rfl | rfl | rfl
  · exact w_c0
  · exact w_c1
  · exact w_c2
  · exact w_c3
  · exact w_c4
  · exact w_c5
  · exact w_c6
  · exact w_c7
  · exact w_c8
  · exact w_c9
  · exact w_c10
  · exact w_c11
  · exact w_c12
set_option maxRecDepth 65536 in
theorem w_t1 : (words1.take 24).all (fun c => isCode c || c.before args0 about1) = true := by decide +kernel
set_option maxRecDepth 65536 in
theorem w_t2 : ((words1.drop 24).take 24).all (fun c => isCode c || c.before args0 about1) = true := by decide +kernel
set_option maxRecDepth 65536 in
theorem w_t3 : (((words1.drop 24).drop 24).take 24).all (fun c => isCode c || c.before args0 about1) = true := by decide +kernel
set_option maxRecDepth 65536 in
theorem w_t4 : ((((words1.drop 24).drop 24).drop 24).take 24).all (fun c => isCode c || c.before args0 about1) = true := by decide +kernel
set_option maxRecDepth 65536 in
theorem w_t5 : ((((words1.drop 24).drop 24).drop 24).drop 24).all (fun c => isCode c || c.before args0 about1) = true := by decide +kernel
theorem w_tables : (allAtoms (Jvm.Cond.code x code maxLocals ret :: tables_1)).before args0 about1 = true := by
  rw [allAtoms_all]
  show words1.all (fun c => c.before args0 about1) = true
  refine all_split ?_ w_codes
  rw [← List.take_append_drop 24 words1, List.all_append, w_t1, ← List.take_append_drop 24 (words1.drop 24), List.all_append, w_t2, ← List.take_append_drop 24 ((words1.drop 24).drop 24), List.all_append, w_t3, ← List.take_append_drop 24 (((words1.drop 24).drop 24).drop 24), List.all_append, w_t4, w_t5]
  rfl
set_option maxRecDepth 65536 in
theorem w_rest : rest_1_c.before args0 about1 = true := by decide +kernel
set_option maxRecDepth 65536 in
theorem w_case : (Jvm.Cond.and given_1 narrow_1).before args0 about1 = true := by decide +kernel
theorem w_applies : (headSpec (Jvm.Cond.code x code maxLocals ret :: tables_1) room_1).applies x e0.platform about1 = true :=
  (Spec.applies_iff w_frames).mpr ⟨w_running, w_runnable, w_alone, w_named, w_hears, w_ripe, w_room, w_tables⟩
theorem atStart : AtStart classFile x code maxLocals ret World_1 tables_1 room_1 Calls_1 rest_1 Pre_1 launch0 p0 e0 about1 theMethod args0 below0 :=
  ⟨lists_1, trivial, launch0.admits_env _ _ _, launch0.least_env, fairChoices_fair.cas, fairChoices_fair.clock, w_frames, w_args, w_heap, w_applies, trivial, w_rest, w_case⟩
end start1
theorem witness_1 : WitnessClaimed_1 := ⟨start1.p0, start1.e0, start1.about1, start1.theMethod, start1.args0, start1.below0, start1.atStart⟩
end Jvm.Pilot.@@N@@
