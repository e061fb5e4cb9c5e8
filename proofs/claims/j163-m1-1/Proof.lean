import JvmDerived
import JvmDerived.Pilot.@@N@@Statement
import JvmDerived.Pilot.@@N@@Code
set_option linter.unusedVariables false
set_option linter.unusedSimpArgs false
namespace Jvm.Ow
open Sem ClassFile Op Lib Jvm.Stand Jvm.Free Jvm.LawKit Jvm.RoadKit
def WideEnd (s : State) (o : Outcome) (t : State) (L : List Loc) (k n : Nat) : Prop :=
  (∃ v : Option Value, o = Outcome.returned v) ∧ s.Warmed39 t.vm ∧ (∀ (j : Nat) (p : Array UInt16 × Addr), s.vm.interned.size ≤ j → t.vm.interned[j]? = some p → s.heap.size ≤ p.2 ∧ p.2 < t.heap.size) ∧ s.sameButNew { t with vm := s.vm } L k n
def EndF (wd : Bool) (s : State) (o : Outcome) (t : State) (L : List Loc) (k n : Nat) : Prop := match wd with
  | true => WideEnd s o t L k n
  | false => FrameEnd s o t L k n
theorem EndF.of {wd : Bool} {s : State} {o : Outcome} {t : State} {L : List Loc} {k n : Nat} (h : FrameEnd s o t L k n) : EndF wd s o t L k n := by
  cases wd
  · exact h
  · exact wide h
def Cx (p : Program) (l : Launch) (e : Env) (R : Room) (m : MethodId) (args : Array Value) (below : List Frame) (meth : Method) (c : Code) (Z : State) (y : MethodName) (bytes : ByteArray) (ml : Nat) (ret : Option FieldType) (n0 : Nat) (wd : Bool) (F : Outcome → State → List Loc → Prop) (T : State) (h : Heap) (cells slots : Nat) : Prop :=
  ∃ s locs, Stand p l e R s m args below meth c T locs cells slots ∧ p.tables.exec = Jvm.exec ∧ c.code = bytes ∧ c.maxLocals = ml ∧ Z.Warmed39 s.vm ∧ s.vm.findClass y.cls = some m.cls ∧ meth.name = y.name ∧ meth.sig.returnType = ret ∧ meth.locks = false ∧ T.heap = h ∧ Fr n0 locs ∧ n0 ≤ s.heap.size ∧ ∀ o t L, h.size ≤ t.heap.size → EndF wd s o t L R.cells R.slots → F o t L
def Go (p : Program) (e : Env) (below : List Frame) (F : Outcome → State → List Loc → Prop) (n0 : Nat) (Q : Option Value → Heap → Prop) (T : State) (f : JFrame) : Prop :=
  ∃ s₂ o, Steps p.tables e below (T.setTop f) s₂ ∧ s₂.status = .running ∧ Ended s₂ below o ∧ ∃ v L, o = .returned v ∧ (Q v s₂.heap ∧ Fr n0 L ∧ n0 ≤ s₂.heap.size) ∧ F o s₂ L
def Ctr (l : Launch) (Z : State) (y : MethodName) (bytes : ByteArray) (ml : Nat) (ret : Option FieldType) (R : Room) (as' : Array Value) (h : Heap) (n0 : Nat) (Q : Option Value → Heap → Prop) : Prop :=
  ∀ ws : List Jvm.Cond, MetFree l y (head1 (Jvm.Cond.code y bytes ml ret :: ws) R) (fun a U => a = as' ∧ Z.Warmed39 U.vm ∧ U.heap = h) (fun _ _ _ _ _ => True) (fun _ U o U' => ∃ v L, o = .returned v ∧ ((Q v U'.heap ∧ h.size ≤ U'.heap.size) ∧ Fr n0 L) ∧ FrameEnd U o U' L R.cells R.slots)
section Layer
variable {p : Program} {l : Launch} {e : Env} {R : Room} {m : MethodId} {args : Array Value} {below : List Frame} {meth : Method} {c : Code} {T T' : State} {cells slots : Nat} {Z : State} {a0 : Array Value} {h : Heap} {y : MethodName} {bytes : ByteArray} {ml n0 : Nat} {ret : Option FieldType} {wd : Bool} {F : Outcome → State → List Loc → Prop} {Q : Option Value → Heap → Prop} {pc pc' : Nat} {L L' : Array Slot} {S : List Value}
theorem Ctr.body {as' : Array Value} (hpl : plainFor y = true) (hn : n0 ≤ h.size) (ef : ∀ m, entryFrame m as' ml = mkF m 0 L [])
    (k : ∀ (p : Program) (e : Env) (F : Outcome → State → List Loc → Prop) (m : MethodId) (below : List Frame) (meth : Method) (c : Code) (T : State), Cx p l e R m as' below meth c Z y bytes ml ret n0 false F T h 0 0 → Go p e below F n0 Q T (mkF m 0 L [])) : Ctr l Z y bytes ml ret R as' h n0 Q := by
  intro ws
  refine MetFree.of_bodySF hpl hisR ?_
  intro p e s m args below meth c s₁ Bd hml0 hP hK
  obtain ⟨rfl, hZ, hh⟩ := hP
  obtain ⟨s₂, o, g1, g2, g3, v, L9, g4, ⟨g5, g6, -⟩, g7⟩ := k p e (fun o t L => FrameEnd s o t L R.cells R.slots) m below meth c s₁ ⟨s, [], Stand.of_body Bd, Bd.exec, Bd.bytes, hml0, hZ, findClass_of_methodNamed Bd.named, (name_of_methodNamed Bd.named Bd.method).1, Bd.returns, Bd.notSynchronized, by rw [← hh, Bd.state]; rfl, Fr.nil n0, by rw [hh]; exact hn, fun _ _ _ _ q => q⟩
  rw [ef m]
  exact ⟨s₂, o, g1, g2, g3, v, L9, g4, ⟨⟨g5, by rw [← hh]; exact g7.2.2.2.1⟩, g6⟩, g7⟩
theorem Go.via {f f' : JFrame} (k : Go p e below F n0 Q T' f') (hs : ∀ t, Steps p.tables e below (T'.setTop f') t → Steps p.tables e below (T.setTop f) t) : Go p e below F n0 Q T f := by
  obtain ⟨s₂, o, h1, h2⟩ := k; exact ⟨s₂, o, hs _ h1, h2⟩
theorem Cx.size (C : Cx p l e R m args below meth c Z y bytes ml ret n0 wd F T h cells slots) : n0 ≤ h.size := by
  obtain ⟨s, locs, X, -, -, -, -, -, -, -, -, rfl, -, hn, -⟩ := C
  exact Nat.le_trans hn X.same.2.1
theorem Cx.iloadN (C : Cx p l e R m args below meth c Z y bytes ml ret n0 wd F T h cells slots) {k : Fin 4} {v : Int32} (hd : decode bytes pc = .ok (.iload_n k, 1)) (hp : pc + 1 = pc') (hl : L[k.val]? = some (.val (.int v))) (K : Go p e below F n0 Q T (mkF m pc' L (.int v :: S))) : Go p e below F n0 Q T (mkF m pc L S) := by
  obtain ⟨s, locs, X, hx, rfl, -⟩ := C; subst hp
  exact K.via fun t k => XS.iloadN X.here hx rfl hd hl k
theorem Cx.iload (C : Cx p l e R m args below meth c Z y bytes ml ret n0 wd F T h cells slots) {k : Nat} {v : Int32} (hd : decode bytes pc = .ok (.iload k, 2)) (hp : pc + 2 = pc') (hl : L[k]? = some (.val (.int v))) (K : Go p e below F n0 Q T (mkF m pc' L (.int v :: S))) : Go p e below F n0 Q T (mkF m pc L S) := by
  obtain ⟨s, locs, X, hx, rfl, -⟩ := C; subst hp
  exact K.via fun t k => XS.iload X.here hx rfl hd hl k
theorem Cx.istoreN (C : Cx p l e R m args below meth c Z y bytes ml ret n0 wd F T h cells slots) {k : Fin 4} {x : Int32} (hd : decode bytes pc = .ok (.istore_n k, 1)) (hp : pc + 1 = pc') (hl : storeLocals L k.val (.int x) = some L') (K : Go p e below F n0 Q T (mkF m pc' L' S)) : Go p e below F n0 Q T (mkF m pc L (.int x :: S)) := by
  obtain ⟨s, locs, X, hx, rfl, -⟩ := C; subst hp
  exact K.via fun t k => XS.istoreN X.here hx rfl hd rfl hl k
theorem Cx.istore (C : Cx p l e R m args below meth c Z y bytes ml ret n0 wd F T h cells slots) {k : Nat} {x : Int32} (hd : decode bytes pc = .ok (.istore k, 2)) (hp : pc + 2 = pc') (hl : storeLocals L k (.int x) = some L') (K : Go p e below F n0 Q T (mkF m pc' L' S)) : Go p e below F n0 Q T (mkF m pc L (.int x :: S)) := by
  obtain ⟨s, locs, X, hx, rfl, -⟩ := C; subst hp
  exact K.via fun t k => XS.istore X.here hx rfl hd rfl hl k
theorem Cx.istoreV (C : Cx p l e R m args below meth c Z y bytes ml ret n0 wd F T h cells slots) {k : Nat} {x : Int32} (Lf : Int32 → Array Slot) (hd : decode bytes pc = .ok (.istore k, 2)) (hp : pc + 2 = pc') (hl : ∀ v, storeLocals L k (.int v) = some (Lf v)) (K : ∀ v, v = x → Go p e below F n0 Q T (mkF m pc' (Lf v) S)) : Go p e below F n0 Q T (mkF m pc L (.int x :: S)) :=
  C.istore hd hp (hl x) (K x rfl)
theorem Cx.aloadN (C : Cx p l e R m args below meth c Z y bytes ml ret n0 wd F T h cells slots) {k : Fin 4} {v : Value} (hd : decode bytes pc = .ok (.aload_n k, 1)) (hp : pc + 1 = pc') (hl : L[k.val]? = some (.val v)) (hv : v.isRef = true) (K : Go p e below F n0 Q T (mkF m pc' L (v :: S))) : Go p e below F n0 Q T (mkF m pc L S) := by
  obtain ⟨s, locs, X, hx, rfl, -⟩ := C; subst hp
  exact K.via fun t k => XS.aloadN X.here hx rfl hd hl hv k
theorem Cx.aload (C : Cx p l e R m args below meth c Z y bytes ml ret n0 wd F T h cells slots) {k : Nat} {v : Value} (hd : decode bytes pc = .ok (.aload k, 2)) (hp : pc + 2 = pc') (hl : L[k]? = some (.val v)) (hv : v.isRef = true) (K : Go p e below F n0 Q T (mkF m pc' L (v :: S))) : Go p e below F n0 Q T (mkF m pc L S) := by
  obtain ⟨s, locs, X, hx, rfl, -⟩ := C; subst hp
  exact K.via fun t k => XS.aload X.here hx rfl hd hl hv k
theorem Cx.astore (C : Cx p l e R m args below meth c Z y bytes ml ret n0 wd F T h cells slots) {k : Nat} {x : Value} (hd : decode bytes pc = .ok (.astore k, 2)) (hp : pc + 2 = pc') (hv : x.isRef = true) (hl : storeLocals L k x = some L') (K : Go p e below F n0 Q T (mkF m pc' L' S)) : Go p e below F n0 Q T (mkF m pc L (x :: S)) := by
  obtain ⟨s, locs, X, hx, rfl, -⟩ := C; subst hp
  exact K.via fun t k => XS.astore X.here hx rfl hd rfl hv hl k
theorem Cx.iconst (C : Cx p l e R m args below meth c Z y bytes ml ret n0 wd F T h cells slots) {i : Int} (v : Int32) (hd : decode bytes pc = .ok (.iconst i, 1)) (hp : pc + 1 = pc') (hv : Int32.ofInt i = v) (K : Go p e below F n0 Q T (mkF m pc' L (.int v :: S))) : Go p e below F n0 Q T (mkF m pc L S) := by
  obtain ⟨s, locs, X, hx, rfl, -⟩ := C; subst hp
  exact K.via fun t k => XT.iconstV X.here hx rfl v hd hv k
theorem Cx.bipush (C : Cx p l e R m args below meth c Z y bytes ml ret n0 wd F T h cells slots) {i : Int} (v : Int32) (hd : decode bytes pc = .ok (.bipush i, 2)) (hp : pc + 2 = pc') (hv : (Int8.ofInt i).toInt32 = v) (K : Go p e below F n0 Q T (mkF m pc' L (.int v :: S))) : Go p e below F n0 Q T (mkF m pc L S) := by
  obtain ⟨s, locs, X, hx, rfl, -⟩ := C; subst hp
  exact K.via fun t k => XT.bipushV X.here hx rfl v hd hv k
theorem Cx.iinc (C : Cx p l e R m args below meth c Z y bytes ml ret n0 wd F T h cells slots) {k : Nat} {cst : Int} {x : Int32} (v : Int32) (hd : decode bytes pc = .ok (.iinc k cst, 3)) (hp : pc + 3 = pc') (hv : Int32.ofInt cst = v) (hl : L[k]? = some (.val (.int x))) (hl' : storeLocals L k (.int (x + v)) = some L') (K : Go p e below F n0 Q T (mkF m pc' L' S)) : Go p e below F n0 Q T (mkF m pc L S) := by
  obtain ⟨s, locs, X, hx, rfl, -⟩ := C; subst hp
  exact K.via fun t k => XT.iincV X.here hx rfl v hd hv hl hl' k
theorem Cx.iadd (C : Cx p l e R m args below meth c Z y bytes ml ret n0 wd F T h cells slots) {x z : Int32} (hd : decode bytes pc = .ok (.iadd, 1)) (hp : pc + 1 = pc')  (K : Go p e below F n0 Q T (mkF m pc' L (.int (x + z) :: S))) : Go p e below F n0 Q T (mkF m pc L (.int z :: .int x :: S)) := by
  obtain ⟨s, locs, X, hx, rfl, -⟩ := C; subst hp
  exact K.via fun t k => XS.iadd X.here hx rfl hd rfl k
theorem Cx.imul (C : Cx p l e R m args below meth c Z y bytes ml ret n0 wd F T h cells slots) {x z : Int32} (hd : decode bytes pc = .ok (.imul, 1)) (hp : pc + 1 = pc')  (K : Go p e below F n0 Q T (mkF m pc' L (.int (x * z) :: S))) : Go p e below F n0 Q T (mkF m pc L (.int z :: .int x :: S)) := by
  obtain ⟨s, locs, X, hx, rfl, -⟩ := C; subst hp
  exact K.via fun t k => XS.imul X.here hx rfl hd rfl k
theorem Cx.iand (C : Cx p l e R m args below meth c Z y bytes ml ret n0 wd F T h cells slots) {x z : Int32} (hd : decode bytes pc = .ok (.iand, 1)) (hp : pc + 1 = pc')  (K : Go p e below F n0 Q T (mkF m pc' L (.int (x &&& z) :: S))) : Go p e below F n0 Q T (mkF m pc L (.int z :: .int x :: S)) := by
  obtain ⟨s, locs, X, hx, rfl, -⟩ := C; subst hp
  exact K.via fun t k => XS.iand X.here hx rfl hd rfl k
theorem Cx.iushr (C : Cx p l e R m args below meth c Z y bytes ml ret n0 wd F T h cells slots) {x z : Int32} (hd : decode bytes pc = .ok (.iushr, 1)) (hp : pc + 1 = pc')  (K : Go p e below F n0 Q T (mkF m pc' L (.int ((x.toUInt32 >>> (z &&& 31).toUInt32).toInt32) :: S))) : Go p e below F n0 Q T (mkF m pc L (.int z :: .int x :: S)) := by
  obtain ⟨s, locs, X, hx, rfl, -⟩ := C; subst hp
  exact K.via fun t k => XS.iushr X.here hx rfl hd rfl k
theorem Cx.irem (C : Cx p l e R m args below meth c Z y bytes ml ret n0 wd F T h cells slots) {x z : Int32} (hd : decode bytes pc = .ok (.irem, 1)) (hp : pc + 1 = pc') (hz : z ≠ 0) (K : Go p e below F n0 Q T (mkF m pc' L (.int (x % z) :: S))) : Go p e below F n0 Q T (mkF m pc L (.int z :: .int x :: S)) := by
  obtain ⟨s, locs, X, hx, rfl, -⟩ := C; subst hp
  exact K.via fun t k => iremM X hx rfl hd rfl hz k
theorem Cx.i2b (C : Cx p l e R m args below meth c Z y bytes ml ret n0 wd F T h cells slots) {x : Int32} (hd : decode bytes pc = .ok (.i2b, 1)) (hp : pc + 1 = pc')  (K : Go p e below F n0 Q T (mkF m pc' L (.int (x.toInt8.toInt32) :: S))) : Go p e below F n0 Q T (mkF m pc L (.int x :: S)) := by
  obtain ⟨s, locs, X, hx, rfl, -⟩ := C; subst hp
  exact K.via fun t k => XT.i2b X.here hx rfl hd rfl k
theorem Cx.goto (C : Cx p l e R m args below meth c Z y bytes ml ret n0 wd F T h cells slots) {o : Int} (hd : decode bytes pc = .ok (.goto o, 3)) (ho : 0 ≤ (pc : Int) + o) (hp : ((pc : Int) + o).toNat = pc') (K : Go p e below F n0 Q T (mkF m pc' L S)) : Go p e below F n0 Q T (mkF m pc L S) := by
  obtain ⟨s, locs, X, hx, rfl, -⟩ := C
  exact K.via fun t k => XS.goto X.here hx rfl rfl hd ho hp k
theorem Cx.icmp_eq (C : Cx p l e R m args below meth c Z y bytes ml ret n0 wd F T h cells slots) {x z : Int32} {o : Int} {py pn : Nat} (hd : decode bytes pc = .ok (.if_icmp .eq o, 3)) (ho : 0 ≤ (pc : Int) + o) (hy : ((pc : Int) + o).toNat = py) (hn : pc + 3 = pn) (K1 : x = z → Go p e below F n0 Q T (mkF m py L S)) (K2 : ¬ x = z → Go p e below F n0 Q T (mkF m pn L S)) : Go p e below F n0 Q T (mkF m pc L (.int z :: .int x :: S)) := by
  obtain ⟨s, locs, X, hx, rfl, -⟩ := C; subst hn
  by_cases q : x = z
  · exact (K1 q).via fun t k => XS.icmpYes X.here hx rfl rfl hd rfl (XT.ii_eq_t q) ho hy k
  · exact (K2 q).via fun t k => XS.icmpNo X.here hx rfl hd rfl (XT.ii_eq_f q) k
theorem Cx.if_eq (C : Cx p l e R m args below meth c Z y bytes ml ret n0 wd F T h cells slots) {x : Int32} {o : Int} {py pn : Nat} (hd : decode bytes pc = .ok (.ifCond .eq o, 3)) (ho : 0 ≤ (pc : Int) + o) (hy : ((pc : Int) + o).toNat = py) (hn : pc + 3 = pn) (K1 : x = (0 : Int32) → Go p e below F n0 Q T (mkF m py L S)) (K2 : ¬ x = (0 : Int32) → Go p e below F n0 Q T (mkF m pn L S)) : Go p e below F n0 Q T (mkF m pc L (.int x :: S)) := by
  obtain ⟨s, locs, X, hx, rfl, -⟩ := C; subst hn
  by_cases q : x = (0 : Int32)
  · exact (K1 q).via fun t k => XS.ifYes X.here hx rfl rfl hd rfl (XT.i0_eq_t q) ho hy k
  · exact (K2 q).via fun t k => XS.ifNo X.here hx rfl hd rfl (XT.i0_eq_f q) k
theorem Cx.icmp_ne (C : Cx p l e R m args below meth c Z y bytes ml ret n0 wd F T h cells slots) {x z : Int32} {o : Int} {py pn : Nat} (hd : decode bytes pc = .ok (.if_icmp .ne o, 3)) (ho : 0 ≤ (pc : Int) + o) (hy : ((pc : Int) + o).toNat = py) (hn : pc + 3 = pn) (K1 : ¬ x = z → Go p e below F n0 Q T (mkF m py L S)) (K2 : x = z → Go p e below F n0 Q T (mkF m pn L S)) : Go p e below F n0 Q T (mkF m pc L (.int z :: .int x :: S)) := by
  obtain ⟨s, locs, X, hx, rfl, -⟩ := C; subst hn
  by_cases q : x = z
  · exact (K2 q).via fun t k => XS.icmpNo X.here hx rfl hd rfl (XT.ii_ne_f q) k
  · exact (K1 q).via fun t k => XS.icmpYes X.here hx rfl rfl hd rfl (XT.ii_ne_t q) ho hy k
theorem Cx.if_ne (C : Cx p l e R m args below meth c Z y bytes ml ret n0 wd F T h cells slots) {x : Int32} {o : Int} {py pn : Nat} (hd : decode bytes pc = .ok (.ifCond .ne o, 3)) (ho : 0 ≤ (pc : Int) + o) (hy : ((pc : Int) + o).toNat = py) (hn : pc + 3 = pn) (K1 : ¬ x = (0 : Int32) → Go p e below F n0 Q T (mkF m py L S)) (K2 : x = (0 : Int32) → Go p e below F n0 Q T (mkF m pn L S)) : Go p e below F n0 Q T (mkF m pc L (.int x :: S)) := by
  obtain ⟨s, locs, X, hx, rfl, -⟩ := C; subst hn
  by_cases q : x = (0 : Int32)
  · exact (K2 q).via fun t k => XS.ifNo X.here hx rfl hd rfl (XT.i0_ne_f q) k
  · exact (K1 q).via fun t k => XS.ifYes X.here hx rfl rfl hd rfl (XT.i0_ne_t q) ho hy k
theorem Cx.icmp_lt (C : Cx p l e R m args below meth c Z y bytes ml ret n0 wd F T h cells slots) {x z : Int32} {o : Int} {py pn : Nat} (hd : decode bytes pc = .ok (.if_icmp .lt o, 3)) (ho : 0 ≤ (pc : Int) + o) (hy : ((pc : Int) + o).toNat = py) (hn : pc + 3 = pn) (K1 : x < z → Go p e below F n0 Q T (mkF m py L S)) (K2 : ¬ x < z → Go p e below F n0 Q T (mkF m pn L S)) : Go p e below F n0 Q T (mkF m pc L (.int z :: .int x :: S)) := by
  obtain ⟨s, locs, X, hx, rfl, -⟩ := C; subst hn
  by_cases q : x < z
  · exact (K1 q).via fun t k => XS.icmpYes X.here hx rfl rfl hd rfl (XT.ii_lt_t q) ho hy k
  · exact (K2 q).via fun t k => XS.icmpNo X.here hx rfl hd rfl (XT.ii_lt_f q) k
theorem Cx.icmp_ge (C : Cx p l e R m args below meth c Z y bytes ml ret n0 wd F T h cells slots) {x z : Int32} {o : Int} {py pn : Nat} (hd : decode bytes pc = .ok (.if_icmp .ge o, 3)) (ho : 0 ≤ (pc : Int) + o) (hy : ((pc : Int) + o).toNat = py) (hn : pc + 3 = pn) (K1 : ¬ x < z → Go p e below F n0 Q T (mkF m py L S)) (K2 : x < z → Go p e below F n0 Q T (mkF m pn L S)) : Go p e below F n0 Q T (mkF m pc L (.int z :: .int x :: S)) := by
  obtain ⟨s, locs, X, hx, rfl, -⟩ := C; subst hn
  by_cases q : x < z
  · exact (K2 q).via fun t k => XS.icmpNo X.here hx rfl hd rfl (XT.ii_ge_f q) k
  · exact (K1 q).via fun t k => XS.icmpYes X.here hx rfl rfl hd rfl (XT.ii_ge_t q) ho hy k
theorem Cx.icmp_gt (C : Cx p l e R m args below meth c Z y bytes ml ret n0 wd F T h cells slots) {x z : Int32} {o : Int} {py pn : Nat} (hd : decode bytes pc = .ok (.if_icmp .gt o, 3)) (ho : 0 ≤ (pc : Int) + o) (hy : ((pc : Int) + o).toNat = py) (hn : pc + 3 = pn) (K1 : z < x → Go p e below F n0 Q T (mkF m py L S)) (K2 : ¬ z < x → Go p e below F n0 Q T (mkF m pn L S)) : Go p e below F n0 Q T (mkF m pc L (.int z :: .int x :: S)) := by
  obtain ⟨s, locs, X, hx, rfl, -⟩ := C; subst hn
  by_cases q : z < x
  · exact (K1 q).via fun t k => XS.icmpYes X.here hx rfl rfl hd rfl (XT.ii_gt_t q) ho hy k
  · exact (K2 q).via fun t k => XS.icmpNo X.here hx rfl hd rfl (XT.ii_gt_f q) k
theorem Cx.icmp_le (C : Cx p l e R m args below meth c Z y bytes ml ret n0 wd F T h cells slots) {x z : Int32} {o : Int} {py pn : Nat} (hd : decode bytes pc = .ok (.if_icmp .le o, 3)) (ho : 0 ≤ (pc : Int) + o) (hy : ((pc : Int) + o).toNat = py) (hn : pc + 3 = pn) (K1 : ¬ z < x → Go p e below F n0 Q T (mkF m py L S)) (K2 : z < x → Go p e below F n0 Q T (mkF m pn L S)) : Go p e below F n0 Q T (mkF m pc L (.int z :: .int x :: S)) := by
  obtain ⟨s, locs, X, hx, rfl, -⟩ := C; subst hn
  by_cases q : z < x
  · exact (K2 q).via fun t k => XS.icmpNo X.here hx rfl hd rfl (XT.ii_le_f q) k
  · exact (K1 q).via fun t k => XS.icmpYes X.here hx rfl rfl hd rfl (XT.ii_le_t q) ho hy k
theorem Cx.done (C : Cx p l e R m args below meth c Z y bytes ml ret n0 wd F T h cells slots) {v : Option Value} (hv : ret = none → v = none) (hc : cells ≤ R.cells) (hs : slots ≤ R.slots) (hq : Q v h) {f : JFrame}
    (k : ∀ s locs fs, Stand p l e R s m args below meth c T locs cells slots → (∀ (f : JFrame) (acts : List Action), f.method = m → f.locked = none → f.entered = [] → (doReturn e (T.setTop f) acts v).1 = T.setFrames fs) → Steps p.tables e below (T.setTop f) (T.setFrames fs)) : Go p e below F n0 Q T f := by
  have hz := C.size
  obtain ⟨s, locs, X, hx, rfl, rfl, hZ, hown, hnm, rfl, hlk, rfl, N, hn, hF⟩ := C
  obtain ⟨fs, hr, hrun, hended, hW, hsame⟩ := X.leave (v := v) hv
  exact ⟨_, _, k s locs fs X hr, hrun, hended, v, locs, rfl, ⟨hq, N, hz⟩, hF _ _ _ (Nat.le_refl _) (EndF.of ⟨⟨v, rfl⟩, hW, hsame.mono hc hs⟩)⟩
theorem Cx.retI (C : Cx p l e R m args below meth c Z y bytes ml ret n0 wd F T h cells slots) {z : Int32} (hd : decode bytes pc = .ok (.ireturn, 1)) (hret : ret = some .int) (hc : cells ≤ R.cells) (hs : slots ≤ R.slots) (hq : Q (some (.int z)) h) : Go p e below F n0 Q T (mkF m pc L (.int z :: S)) := by
  refine C.done (fun q => by rw [hret] at q; cases q) hc hs hq fun s locs fs X hr => ?_
  obtain ⟨_, _, -, hx, rfl, -, -, -, -, rfl, -⟩ := C
  exact retOut X hx hret rfl (Or.inl ⟨rfl, Or.inl rfl, _, rfl⟩) hd hr
theorem Cx.retN (C : Cx p l e R m args below meth c Z y bytes ml ret n0 wd F T h cells slots) {z w : Int32} {t : FieldType} (hd : decode bytes pc = .ok (.ireturn, 1)) (hret : ret = some t) (ht : t = .boolean ∨ t = .byte ∨ t = .char ∨ t = .short) (hc : cells ≤ R.cells) (hs : slots ≤ R.slots) (hw : nar t z = w) (hq : Q (some (.int w)) h) : Go p e below F n0 Q T (mkF m pc L (.int z :: S)) := by
  subst hw
  refine C.done (fun q => by rw [hret] at q; cases q) hc hs hq fun s locs fs X hr => ?_
  obtain ⟨_, _, -, hx, rfl, -, -, -, -, rfl, -⟩ := C
  exact Jvm.RoadKit.retN X hx hret ht hd hr
theorem Cx.callS (C : Cx p l e R m args below meth c Z y bytes ml ret n0 wd F T h cells slots) {idx : Nat} {y' : MethodName} {bytes' : ByteArray} {ml' : Nat} {ret' : Option FieldType} {R' : Room} {Q' : Option Value → Heap → Prop} {argsL : List Value} (w1 : (Jvm.Cond.methodLink y.cls idx y').before a0 Z = true) (w2 : (Jvm.Cond.static y').before a0 Z = true) (w3 : (Jvm.Cond.initialized y'.cls).before a0 Z = true) (w4 : (Jvm.Cond.code y' bytes' ml' ret').before a0 Z = true)
    (hy : y'.cls ≠ "java/lang/invoke/MethodHandle" ∧ y'.cls ≠ "java/lang/invoke/VarHandle") (M : Ctr l Z y' bytes' ml' ret' R' argsL.toArray h n0 Q') {ps : List FieldType} {rt : Option FieldType} (hpd : parseMethodDescriptor y'.desc = some ⟨ps, rt⟩) (hlen : argsL.length = ps.length)
    (W : Nat) (hf : R'.frames + 1 ≤ R.frames) (hl : W + (ml' + 11) + R'.locals ≤ R.locals) (hc : cells + R'.cells ≤ R.cells) (hs : slots + R'.slots ≤ R.slots) {rest : List Value} (hst : S = argsL.reverse ++ rest) (hsz : L.size = ml) (hW : (rest.map fun v => v.category).sum ≤ W)
    (hd : decode bytes pc = .ok (.invokestatic idx, 3)) (hp : pc + 3 = pc') (K : ∀ v T' h', Cx p l e R m args below meth c Z y bytes ml ret n0 wd F T' h' (cells + R'.cells) (slots + R'.slots) → Q' v h' → Go p e below F n0 Q T' (mkF m pc' L (v.toList ++ rest))) : Go p e below F n0 Q T (mkF m pc L S) := by
  obtain ⟨s, locs, X, hx, rfl, rfl, hZ, hown, hnm, hr, hlk, eT, N, hn, hF⟩ := C; subst hp
  obtain ⟨v, _, ⟨T', L', k', n'⟩, -, X', ⟨Lc, hQ, e1, e2, e3⟩, st⟩ := Jvm.LawKit.callS X hx (y := y') hown (mvT hZ w1) (mvT hZ w2) (mvT hZ w3) (mvT hZ w4) hy (backOf (W := W) (Q := fun v h9 L => (Q' v h9 ∧ h.size ≤ h9.size) ∧ Fr n0 L) (M []) hZ w4 w3 hf hl) (g := mkF m pc L S) rfl hsz (argsL := argsL) (rest := rest) (lenOf hpd hlen) hst (by show 2 * 0 + _ ≤ _; omega) hd (fun _ _ => ⟨rfl, eT, hc, hs⟩)
  dsimp only [Pt.U, Pt.locs, Pt.cells, Pt.slots] at X' e1 e2 e3 st hQ
  subst e1 e2 e3
  exact (K v T' T'.heap ⟨s, _, X', hx, rfl, rfl, hZ, hown, hnm, hr, hlk, rfl, N.app hQ.2, hn, fun o t L q => hF o t L (Nat.le_trans hQ.1.2 q)⟩ hQ.1.1).via st
theorem Cx.new (C : Cx p l e R m args below meth c Z y bytes ml ret n0 wd F T h cells slots) {idx n : Nat} {Cl : String} (w : (Jvm.Cond.classLink y.cls idx Cl).before a0 Z = true) (wi : (Jvm.Cond.instantiable Cl n).before a0 Z = true) (wz : (Jvm.Cond.initialized Cl).before a0 Z = true) (hd : decode bytes pc = .ok (.new idx, 3)) (hp : pc + 3 = pc') (hc : cells + 1 ≤ R.cells) (hl : slots + n ≤ R.slots)
    (K : ∀ T' h' b, Cx p l e R m args below meth c Z y bytes ml ret n0 wd F T' h' (cells + 1) (slots + n) → b = h.size → n0 ≤ b → Ext h h' → Exa Z h' b Cl → (∀ {O nm d : String} {ty : FieldType}, Laid Z a0 Cl O nm d → parseFieldDescriptor d = some ty → Fld Z h' b O nm d (defaultValue ty)) → Go p e below F n0 Q T' (mkF m pc' L (.ref b :: S))) : Go p e below F n0 Q T (mkF m pc L S) := by
  have hz := C.size
  obtain ⟨s, locs, X, hx, rfl, rfl, hZ, hown, hnm, hr, hlk, eT, N, hn, hF⟩ := C; subst hp
  obtain ⟨T', h', X', e', E, A, D, -, st⟩ := newO X hx hZ hown w wi wz eT (g := mkF m pc L S) rfl hd hc hl
  exact (K T' h' h.size ⟨s, locs, X', hx, rfl, rfl, hZ, hown, hnm, hr, hlk, e', N, hn, fun o t L q => hF o t L (Nat.le_trans E.1 q)⟩ rfl hz E A D).via st
theorem Cx.newarr (C : Cx p l e R m args below meth c Z y bytes ml ret n0 wd F T h cells slots) {aty : ArrayType} (w : (Jvm.Cond.arrayClass (newarray.typeOf aty)).before a0 Z = true) {n : Int32} (cap : Nat) (hn0 : ¬ n < 0) (hcap : n.toNatClampNeg ≤ cap) (hb : cap * 8 ≤ 536870912) (hc : cells + 1 ≤ R.cells) (hl : slots + cap ≤ R.slots) (hd : decode bytes pc = .ok (.newarray aty, 2)) (hp : pc + 2 = pc')
    (K : ∀ T' h' b k, Cx p l e R m args below meth c Z y bytes ml ret n0 wd F T' h' (cells + 1) (slots + cap) → b = h.size → n0 ≤ b → Ext h h' → Arv Z h' b k (newarray.typeOf aty) n (List.replicate cap (defaultValue (newarray.typeOf aty))) (defaultValue (newarray.typeOf aty)) → Go p e below F n0 Q T' (mkF m pc' L (.ref b :: S))) : Go p e below F n0 Q T (mkF m pc L (.int n :: S)) := by
  have hz := C.size
  obtain ⟨s, locs, X, hx, rfl, rfl, hZ, hown, hnm, hr, hlk, eT, N, hn, hF⟩ := C; subst hp
  obtain ⟨T', h', cA, X', e', E, A, st⟩ := newP X hx hZ w eT (g := mkF m pc L (.int n :: S)) rfl hd rfl hn0 (cap := cap) hcap hb hc hl
  exact (K T' h' h.size cA ⟨s, locs, X', hx, rfl, rfl, hZ, hown, hnm, hr, hlk, e', N, hn, fun o t L q => hF o t L (Nat.le_trans E.1 q)⟩ rfl hz E ((Arv.new A hn0).pad (pad_rep [] _ cap))).via st
theorem Cx.bastore (C : Cx p l e R m args below meth c Z y bytes ml ret n0 wd F T h cells slots) {a : Addr} {k : ClassId} {n j : Int32} {x : Int32} {vs : List Value} {dv : Value} (A : Arv Z h a k .byte n vs dv) (hj : ¬ j < 0 ∧ j < n) (hlen : j.toNatClampNeg < vs.length) (g : n0 ≤ a) (hd : decode bytes pc = .ok (.bastore, 1)) (hp : pc + 1 = pc')
    (K : ∀ T' h', Cx p l e R m args below meth c Z y bytes ml ret n0 wd F T' h' cells slots → Wr h h' a j.toNatClampNeg (.int (nar .byte x)) → Arv Z h' a k .byte n (vs.set j.toNatClampNeg (.int (nar .byte x))) dv → Go p e below F n0 Q T' (mkF m pc' L S)) : Go p e below F n0 Q T (mkF m pc L (.int x :: .int j :: .ref a :: S)) := by
  obtain ⟨s, locs, X, hx, rfl, rfl, hZ, hown, hnm, hr, hlk, eT, N, hn, hF⟩ := C; subst hp
  obtain ⟨cl, Ar, q1, Sz, q3, H, G⟩ := A
  obtain ⟨T', h', X', e', W, st⟩ := stB X hx hZ eT Ar (j := j) (inb_of Sz hj) (g := mkF m pc L (.int x :: .int j :: .ref a :: S)) rfl rfl hd
  exact (K T' h' ⟨s, _, X', hx, rfl, rfl, hZ, hown, hnm, hr, hlk, e', Fr.snoc X' N g, hn, fun o t L q => hF o t L (W.size ▸ q)⟩ W (Arv.set Ar q1 Sz q3 H G (fits_nar_byte _) W _ rfl hlen)).via st
theorem Cx.baload (C : Cx p l e R m args below meth c Z y bytes ml ret n0 wd F T h cells slots) {a : Addr} {k : ClassId} {n j : Int32} {v : Int32} {vs : List Value} {dv : Value} (A : Arv Z h a k .byte n vs dv) (hj : ¬ j < 0 ∧ j < n) (hv : vs.getD j.toNatClampNeg dv = .int v) (hd : decode bytes pc = .ok (.baload, 1)) (hp : pc + 1 = pc') (K : Go p e below F n0 Q T (mkF m pc' L (.int v :: S))) : Go p e below F n0 Q T (mkF m pc L (.int j :: .ref a :: S)) := by
  obtain ⟨s, locs, X, hx, rfl, rfl, hZ, hown, hnm, hr, hlk, eT, N, hn, hF⟩ := C; subst hp
  obtain ⟨cl, Ar, q1, Sz, q3, H, G⟩ := A
  exact K.via fun t k => X.baloadBytes hx (j := j) (by rw [eT]; exact Ar.1) (State.isArrayOf_alike hZ.alike Ar.2.1) Ar.2.2 (inb_of Sz hj) (H.at (inb_of Sz hj) hv) (g := mkF m pc L (.int j :: .ref a :: S)) rfl rfl hd t k
end Layer
end Jvm.Ow
namespace Jvm.Pilot.@@N@@
open Jvm Jvm.ClassFile Sem Op Lib Jvm.Free Jvm.Stand Jvm.LawKit Jvm.RoadKit Bundle Jvm.Ow Jvm.Pilot.@@N@@.Jvm.D
theorem own_narb (x : Int32) : nar .byte x.toInt8.toInt32 = x.toInt8.toInt32 := by
  show x.toInt8.toInt32.toInt8.toInt32 = _; simp
theorem own_eqite {α : Type} {P : Prop} [Decidable P] {u a b : α} : (u = if P then a else b) ↔ ((P ∧ u = a) ∨ (¬ P ∧ u = b)) := by by_cases h : P <;> simp [h]
theorem own_iteeq {α : Type} {P : Prop} [Decidable P] {u a b : α} : ((if P then a else b) = u) ↔ ((P ∧ a = u) ∨ (¬ P ∧ b = u)) := by by_cases h : P <;> simp [h]
def loopP (g : Int32 → Int32) : Nat → Int32 → Int32
  | 0, _ => (0 : Int32)
  | k + 1, i => if (48 : Int32) < g i then (if (57 : Int32) < g i then loopP g k (i + (1 : Int32)) else (1 : Int32)) else loopP g k (i + (1 : Int32))
def own_pm (g : Int32 → Int32) (i1 i2 q : Int32) : Int32 := if q = i1 then (1 : Int32) else loopP g (i2.toInt - q.toInt).toNat q
def own_pl (g : Int32 → Int32) (i1 i2 q : Int32) : Int32 := if (q + (1 : Int32)) < i2 then (if (g q) = (48 : Int32) then (if (g (q + (1 : Int32))) = (46 : Int32) then own_pm g i1 i2 q else (0 : Int32)) else own_pm g i1 i2 q) else own_pm g i1 i2 q
def plainF (g : Int32 → Int32) (i1 i2 : Int32) : Int32 := own_pl g i1 i2 (if i1 < i2 then (if (g i1) = (45 : Int32) then (i1 + (1 : Int32)) else i1) else i1)
def own_byte (v : Value) : Int32 := match v with | .int x => x | _ => 0
theorem own_hg {Z : State} {h : Heap} {a : Addr} {k : ClassId} {n : Int32} {vs : List Value} {dv : Value} (F : Arv Z h a k .byte n vs dv) : ∀ j : Int32, ¬ j < (0 : Int32) ∧ j < n → vs.getD j.toNatClampNeg dv = .int (own_byte (vs.getD j.toNatClampNeg dv)) := by
  intro j hj
  obtain ⟨c, A, q1, S, q3, H, G⟩ := F
  have hi := Nat.lt_of_not_le fun q => inb_of S hj (Or.inr q)
  obtain ⟨x, hx⟩ := fit_I (G _ hi) (by simp)
  rw [hx]; rfl

def f1 (i0 : Int32) (i1 : Int32) : Int32 := ((((i0.toUInt32 >>> (((4 : Int32) * i1) &&& 31).toUInt32).toInt32) &&& (15 : Int32)) % (10 : Int32))
theorem pn1 : plainName "com/example/exdate/exdate/ValuesIsPlainTextPinLaw" = true := by first | (simp [plainName, overriddenIn]; done) | decide +kernel
theorem pd1 : parseMethodDescriptor "(II)I" = some ⟨[.int, .int], some .int⟩ := by decide +kernel
theorem ef1 (m : MethodId) (i0 : Int32) (i1 : Int32) : entryFrame m #[(.int i0), (.int i1)] 2 = mkF m 0 #[.val (.int i0), .val (.int i1)] [] := by first | (simp [entryFrame, mkF, argsToLocals, Value.category]; done) | rfl
theorem d1_0 : decode method_2_code 0 = .ok (.iload_n 0, 1) := by decide +kernel
theorem d1_1 : decode method_2_code 1 = .ok (.iconst 4, 1) := by decide +kernel
theorem d1_2 : decode method_2_code 2 = .ok (.iload_n 1, 1) := by decide +kernel
theorem d1_3 : decode method_2_code 3 = .ok (.imul, 1) := by decide +kernel
theorem d1_4 : decode method_2_code 4 = .ok (.iushr, 1) := by decide +kernel
theorem d1_5 : decode method_2_code 5 = .ok (.bipush 15, 2) := by decide +kernel
theorem d1_7 : decode method_2_code 7 = .ok (.iand, 1) := by decide +kernel
theorem d1_8 : decode method_2_code 8 = .ok (.bipush 10, 2) := by decide +kernel
theorem d1_10 : decode method_2_code 10 = .ok (.irem, 1) := by decide +kernel
theorem d1_11 : decode method_2_code 11 = .ok (.ireturn, 1) := by decide +kernel
set_option maxRecDepth 65536 in
set_option maxHeartbeats 40000000 in
theorem rm1 (l : Launch) (Z : State) (a0 : Array Value) (hw : ∀ d ∈ tables_1, d.before a0 Z = true) (i0 : Int32) (i1 : Int32) (h0 : Heap) (n0 : Nat) (Z0 : n0 ≤ h0.size) :
    Ctr l Z (⟨"com/example/exdate/exdate/ValuesIsPlainTextPinLaw", "dig", "(II)I"⟩ : MethodName) method_2_code 2 (some .int) ({ frames := 0, cells := 0, slots := 0, locals := 0 } : Room) #[(.int i0), (.int i1)] h0 n0 (fun v h' => v = some (.int (f1 i0 i1)) ∧ h' = h0) := by
  refine Ctr.body (L := #[.val (.int i0), .val (.int i1)]) (plainFor_of_name pn1) Z0 (fun m => ef1 m i0 i1) ?_
  intro p e F m below meth c T0 C0
  refine C0.iloadN d1_0 rfl rfl ?_
  refine C0.iconst (4 : Int32) d1_1 rfl rfl ?_
  refine C0.iloadN d1_2 rfl rfl ?_
  refine C0.imul d1_3 rfl ?_
  refine C0.iushr d1_4 rfl ?_
  refine C0.bipush (15 : Int32) d1_5 rfl rfl ?_
  refine C0.iand d1_7 rfl ?_
  refine C0.bipush (10 : Int32) d1_8 rfl rfl ?_
  refine C0.irem d1_10 rfl (by decide) ?_
  exact C0.retI d1_11 rfl (by decide) (by decide) ⟨by rw [f1], rfl⟩
set_option maxRecDepth 65536 in
set_option maxHeartbeats 40000000 in
theorem own_pre2_0 (o0 : Addr) (i1 : Int32) (i2 : Int32) (k1 : ClassId) (n1 : Int32) (vs : List Value) (dv : Value) (g : Int32 → Int32) (hg : ∀ j : Int32, ¬ j < (0 : Int32) ∧ j < n1 → vs.getD j.toNatClampNeg dv = .int (g j)) (hf : ¬ i1 < (0 : Int32)) (ht : ¬ n1 < i2) (hn : n1.toInt < 1000) (hft : ¬ i2 < i1) (c2 : i1 < i2) : ¬ i1 < (0 : Int32) ∧ i1 < n1 := by
  clear hg
  have bl_0 := (i1).le_toInt; have bu_0 := (i1).toInt_lt
  have bl_1 := (i2).le_toInt; have bu_1 := (i2).toInt_lt
  have bl_2 := (n1).le_toInt; have bu_2 := (n1).toInt_lt
  try simp only [own_eqite, own_iteeq] at *
  try simp only [ne_eq, and_true, true_and, or_true, true_or, and_false, false_and, or_false, false_or, not_true_eq_false, not_false_eq_true, Int32.lt_iff_toInt_lt, Int64.lt_iff_toInt_lt, ← Int32.toInt_inj, ← Int64.toInt_inj, Int32.reduceToInt, Int64.reduceToInt] at *
  omega
set_option maxRecDepth 65536 in
set_option maxHeartbeats 40000000 in
theorem own_pre2_1 (o0 : Addr) (i1 : Int32) (i2 : Int32) (k1 : ClassId) (n1 : Int32) (vs : List Value) (dv : Value) (g : Int32 → Int32) (u1 : Int32) (hg : ∀ j : Int32, ¬ j < (0 : Int32) ∧ j < n1 → vs.getD j.toNatClampNeg dv = .int (g j)) (hf : ¬ i1 < (0 : Int32)) (ht : ¬ n1 < i2) (hn : n1.toInt < 1000) (hft : ¬ i2 < i1) (hu1 : u1 = (if i1 < i2 then (if (g i1) = (45 : Int32) then (i1 + (1 : Int32)) else i1) else i1)) (c25 : (u1 + (1 : Int32)) < i2) : ¬ u1 < (0 : Int32) ∧ u1 < n1 := by
  clear hg
  have ca_0 := c_iadd i1 (1 : Int32)
  have ca_1 := c_iadd u1 (1 : Int32)
  have bl_0 := (i1).le_toInt; have bu_0 := (i1).toInt_lt
  have bl_1 := (i2).le_toInt; have bu_1 := (i2).toInt_lt
  have bl_2 := (n1).le_toInt; have bu_2 := (n1).toInt_lt
  have bl_3 := (u1).le_toInt; have bu_3 := (u1).toInt_lt
  have bl_4 := (i1 + (1 : Int32)).le_toInt; have bu_4 := (i1 + (1 : Int32)).toInt_lt
  have bl_5 := (u1 + (1 : Int32)).le_toInt; have bu_5 := (u1 + (1 : Int32)).toInt_lt
  try simp only [own_eqite, own_iteeq] at *
  try simp only [ne_eq, and_true, true_and, or_true, true_or, and_false, false_and, or_false, false_or, not_true_eq_false, not_false_eq_true, Int32.lt_iff_toInt_lt, Int64.lt_iff_toInt_lt, ← Int32.toInt_inj, ← Int64.toInt_inj, Int32.reduceToInt, Int64.reduceToInt] at *
  omega
set_option maxRecDepth 65536 in
set_option maxHeartbeats 40000000 in
theorem own_pre2_2 (o0 : Addr) (i1 : Int32) (i2 : Int32) (k1 : ClassId) (n1 : Int32) (vs : List Value) (dv : Value) (g : Int32 → Int32) (u1 : Int32) (hg : ∀ j : Int32, ¬ j < (0 : Int32) ∧ j < n1 → vs.getD j.toNatClampNeg dv = .int (g j)) (hf : ¬ i1 < (0 : Int32)) (ht : ¬ n1 < i2) (hn : n1.toInt < 1000) (hft : ¬ i2 < i1) (hu1 : u1 = (if i1 < i2 then (if (g i1) = (45 : Int32) then (i1 + (1 : Int32)) else i1) else i1)) (c25 : (u1 + (1 : Int32)) < i2) (c33 : (g u1) = (48 : Int32)) : ¬ (u1 + (1 : Int32)) < (0 : Int32) ∧ (u1 + (1 : Int32)) < n1 := by
  clear hg
  have ca_0 := c_iadd i1 (1 : Int32)
  have ca_1 := c_iadd u1 (1 : Int32)
  have bl_0 := (i1).le_toInt; have bu_0 := (i1).toInt_lt
  have bl_1 := (i2).le_toInt; have bu_1 := (i2).toInt_lt
  have bl_2 := (n1).le_toInt; have bu_2 := (n1).toInt_lt
  have bl_3 := (u1).le_toInt; have bu_3 := (u1).toInt_lt
  have bl_4 := (i1 + (1 : Int32)).le_toInt; have bu_4 := (i1 + (1 : Int32)).toInt_lt
  have bl_5 := (u1 + (1 : Int32)).le_toInt; have bu_5 := (u1 + (1 : Int32)).toInt_lt
  try simp only [own_eqite, own_iteeq] at *
  try simp only [ne_eq, and_true, true_and, or_true, true_or, and_false, false_and, or_false, false_or, not_true_eq_false, not_false_eq_true, Int32.lt_iff_toInt_lt, Int64.lt_iff_toInt_lt, ← Int32.toInt_inj, ← Int64.toInt_inj, Int32.reduceToInt, Int64.reduceToInt] at *
  omega
set_option maxRecDepth 65536 in
set_option maxHeartbeats 40000000 in
theorem own_ret2_0 (o0 : Addr) (i1 : Int32) (i2 : Int32) (k1 : ClassId) (n1 : Int32) (vs : List Value) (dv : Value) (g : Int32 → Int32) (u1 : Int32) (hg : ∀ j : Int32, ¬ j < (0 : Int32) ∧ j < n1 → vs.getD j.toNatClampNeg dv = .int (g j)) (hf : ¬ i1 < (0 : Int32)) (ht : ¬ n1 < i2) (hn : n1.toInt < 1000) (hft : ¬ i2 < i1) (hu1 : u1 = (if i1 < i2 then (if (g i1) = (45 : Int32) then (i1 + (1 : Int32)) else i1) else i1)) (c25 : (u1 + (1 : Int32)) < i2) (c33 : (g u1) = (48 : Int32)) (c43 : ¬ (g (u1 + (1 : Int32))) = (46 : Int32)) : (0 : Int32) = (plainF g i1 i2) := by
  first | rw [plainF, ← hu1, own_pl, if_pos c25, if_pos c33, if_neg c43] | (rw [plainF, ← hu1, hp, own_pm, if_neg c50]; exact hI.trans hR) | rw [plainF, ← hu1, hp, own_pm, if_pos c50]
set_option maxRecDepth 65536 in
set_option maxHeartbeats 40000000 in
theorem own_pre2_3 (o0 : Addr) (i1 : Int32) (i2 : Int32) (k1 : ClassId) (n1 : Int32) (vs : List Value) (dv : Value) (g : Int32 → Int32) (R : Int32) (ix : Int32) (u1 : Int32) (hg : ∀ j : Int32, ¬ j < (0 : Int32) ∧ j < n1 → vs.getD j.toNatClampNeg dv = .int (g j)) (hf : ¬ i1 < (0 : Int32)) (ht : ¬ n1 < i2) (hn : n1.toInt < 1000) (hft : ¬ i2 < i1) (hp : own_pl g i1 i2 u1 = own_pm g i1 i2 u1) (hR : R = loopP g (i2.toInt - u1.toInt).toNat u1) (hk : (i2.toInt - ix.toInt).toNat = 0) (h0 : ¬ ix < (0 : Int32)) (hu1 : u1 = (if i1 < i2 then (if (g i1) = (45 : Int32) then (i1 + (1 : Int32)) else i1) else i1)) (c50 : ¬ u1 = i1) : ¬ ix < i2 := by
  clear hR hp hg
  have ca_0 := c_iadd i1 (1 : Int32)
  have bl_0 := (i1).le_toInt; have bu_0 := (i1).toInt_lt
  have bl_1 := (i2).le_toInt; have bu_1 := (i2).toInt_lt
  have bl_2 := (n1).le_toInt; have bu_2 := (n1).toInt_lt
  have bl_3 := (ix).le_toInt; have bu_3 := (ix).toInt_lt
  have bl_4 := (u1).le_toInt; have bu_4 := (u1).toInt_lt
  have bl_5 := (i1 + (1 : Int32)).le_toInt; have bu_5 := (i1 + (1 : Int32)).toInt_lt
  try simp only [own_eqite, own_iteeq] at *
  try simp only [ne_eq, and_true, true_and, or_true, true_or, and_false, false_and, or_false, false_or, not_true_eq_false, not_false_eq_true, Int32.lt_iff_toInt_lt, Int64.lt_iff_toInt_lt, ← Int32.toInt_inj, ← Int64.toInt_inj, Int32.reduceToInt, Int64.reduceToInt] at *
  omega
set_option maxRecDepth 65536 in
set_option maxHeartbeats 40000000 in
theorem own_ret2_1 (o0 : Addr) (i1 : Int32) (i2 : Int32) (k1 : ClassId) (n1 : Int32) (vs : List Value) (dv : Value) (g : Int32 → Int32) (R : Int32) (ix : Int32) (u1 : Int32) (hg : ∀ j : Int32, ¬ j < (0 : Int32) ∧ j < n1 → vs.getD j.toNatClampNeg dv = .int (g j)) (hf : ¬ i1 < (0 : Int32)) (ht : ¬ n1 < i2) (hn : n1.toInt < 1000) (hft : ¬ i2 < i1) (hp : own_pl g i1 i2 u1 = own_pm g i1 i2 u1) (hR : R = loopP g (i2.toInt - u1.toInt).toNat u1) (hk : (i2.toInt - ix.toInt).toNat = 0) (h0 : ¬ ix < (0 : Int32)) (hI : (0 : Int32) = R) (hu1 : u1 = (if i1 < i2 then (if (g i1) = (45 : Int32) then (i1 + (1 : Int32)) else i1) else i1)) (c50 : ¬ u1 = i1) : (0 : Int32) = (plainF g i1 i2) := by
  first | rw [plainF, ← hu1, own_pl, if_pos c25, if_pos c33, if_neg c43] | (rw [plainF, ← hu1, hp, own_pm, if_neg c50]; exact hI.trans hR) | rw [plainF, ← hu1, hp, own_pm, if_pos c50]
set_option maxRecDepth 65536 in
set_option maxHeartbeats 40000000 in
theorem own_pre2_4 (o0 : Addr) (i1 : Int32) (i2 : Int32) (k1 : ClassId) (n1 : Int32) (vs : List Value) (dv : Value) (g : Int32 → Int32) (R : Int32) (k : Nat) (ix : Int32) (u1 : Int32) (hg : ∀ j : Int32, ¬ j < (0 : Int32) ∧ j < n1 → vs.getD j.toNatClampNeg dv = .int (g j)) (hf : ¬ i1 < (0 : Int32)) (ht : ¬ n1 < i2) (hn : n1.toInt < 1000) (hft : ¬ i2 < i1) (hp : own_pl g i1 i2 u1 = own_pm g i1 i2 u1) (hR : R = loopP g (i2.toInt - u1.toInt).toNat u1) (hk : (i2.toInt - ix.toInt).toNat = (k + 1)) (h0 : ¬ ix < (0 : Int32)) (hu1 : u1 = (if i1 < i2 then (if (g i1) = (45 : Int32) then (i1 + (1 : Int32)) else i1) else i1)) (c50 : ¬ u1 = i1) : ix < i2 := by
  clear hR hp hg
  have ca_0 := c_iadd i1 (1 : Int32)
  have bl_0 := (i1).le_toInt; have bu_0 := (i1).toInt_lt
  have bl_1 := (i2).le_toInt; have bu_1 := (i2).toInt_lt
  have bl_2 := (n1).le_toInt; have bu_2 := (n1).toInt_lt
  have bl_3 := (ix).le_toInt; have bu_3 := (ix).toInt_lt
  have bl_4 := (u1).le_toInt; have bu_4 := (u1).toInt_lt
  have bl_5 := (i1 + (1 : Int32)).le_toInt; have bu_5 := (i1 + (1 : Int32)).toInt_lt
  try simp only [own_eqite, own_iteeq] at *
  try simp only [ne_eq, and_true, true_and, or_true, true_or, and_false, false_and, or_false, false_or, not_true_eq_false, not_false_eq_true, Int32.lt_iff_toInt_lt, Int64.lt_iff_toInt_lt, ← Int32.toInt_inj, ← Int64.toInt_inj, Int32.reduceToInt, Int64.reduceToInt] at *
  omega
set_option maxRecDepth 65536 in
set_option maxHeartbeats 40000000 in
theorem own_pre2_5 (o0 : Addr) (i1 : Int32) (i2 : Int32) (k1 : ClassId) (n1 : Int32) (vs : List Value) (dv : Value) (g : Int32 → Int32) (R : Int32) (k : Nat) (ix : Int32) (u1 : Int32) (hg : ∀ j : Int32, ¬ j < (0 : Int32) ∧ j < n1 → vs.getD j.toNatClampNeg dv = .int (g j)) (hf : ¬ i1 < (0 : Int32)) (ht : ¬ n1 < i2) (hn : n1.toInt < 1000) (hft : ¬ i2 < i1) (hp : own_pl g i1 i2 u1 = own_pm g i1 i2 u1) (hR : R = loopP g (i2.toInt - u1.toInt).toNat u1) (hk : (i2.toInt - ix.toInt).toNat = (k + 1)) (h0 : ¬ ix < (0 : Int32)) (hu1 : u1 = (if i1 < i2 then (if (g i1) = (45 : Int32) then (i1 + (1 : Int32)) else i1) else i1)) (c50 : ¬ u1 = i1) : ¬ ix < (0 : Int32) ∧ ix < n1 := by
  clear hR hp hg
  have ca_0 := c_iadd i1 (1 : Int32)
  have bl_0 := (i1).le_toInt; have bu_0 := (i1).toInt_lt
  have bl_1 := (i2).le_toInt; have bu_1 := (i2).toInt_lt
  have bl_2 := (n1).le_toInt; have bu_2 := (n1).toInt_lt
  have bl_3 := (ix).le_toInt; have bu_3 := (ix).toInt_lt
  have bl_4 := (u1).le_toInt; have bu_4 := (u1).toInt_lt
  have bl_5 := (i1 + (1 : Int32)).le_toInt; have bu_5 := (i1 + (1 : Int32)).toInt_lt
  try simp only [own_eqite, own_iteeq] at *
  try simp only [ne_eq, and_true, true_and, or_true, true_or, and_false, false_and, or_false, false_or, not_true_eq_false, not_false_eq_true, Int32.lt_iff_toInt_lt, Int64.lt_iff_toInt_lt, ← Int32.toInt_inj, ← Int64.toInt_inj, Int32.reduceToInt, Int64.reduceToInt] at *
  omega
set_option maxRecDepth 65536 in
set_option maxHeartbeats 40000000 in
theorem own_inv2_0 (o0 : Addr) (i1 : Int32) (i2 : Int32) (k1 : ClassId) (n1 : Int32) (vs : List Value) (dv : Value) (g : Int32 → Int32) (R : Int32) (k : Nat) (ix : Int32) (u1 : Int32) (hg : ∀ j : Int32, ¬ j < (0 : Int32) ∧ j < n1 → vs.getD j.toNatClampNeg dv = .int (g j)) (hf : ¬ i1 < (0 : Int32)) (ht : ¬ n1 < i2) (hn : n1.toInt < 1000) (hft : ¬ i2 < i1) (hp : own_pl g i1 i2 u1 = own_pm g i1 i2 u1) (hR : R = loopP g (i2.toInt - u1.toInt).toNat u1) (hk : (i2.toInt - ix.toInt).toNat = (k + 1)) (h0 : ¬ ix < (0 : Int32)) (hu1 : u1 = (if i1 < i2 then (if (g i1) = (45 : Int32) then (i1 + (1 : Int32)) else i1) else i1)) (c50 : ¬ u1 = i1) (c70 : ¬ (48 : Int32) < (g ix)) : (i2.toInt - (ix + (1 : Int32)).toInt).toNat = k := by
  clear hR hp hg
  have ca_0 := c_iadd ix 1
  have ca_1 := c_iadd i1 (1 : Int32)
  have bl_0 := (i1).le_toInt; have bu_0 := (i1).toInt_lt
  have bl_1 := (i2).le_toInt; have bu_1 := (i2).toInt_lt
  have bl_2 := (n1).le_toInt; have bu_2 := (n1).toInt_lt
  have bl_3 := (ix).le_toInt; have bu_3 := (ix).toInt_lt
  have bl_4 := (u1).le_toInt; have bu_4 := (u1).toInt_lt
  have bl_5 := (i1 + (1 : Int32)).le_toInt; have bu_5 := (i1 + (1 : Int32)).toInt_lt
  have bl_6 := (ix + 1).le_toInt; have bu_6 := (ix + 1).toInt_lt
  try simp only [own_eqite, own_iteeq] at *
  try simp only [ne_eq, and_true, true_and, or_true, true_or, and_false, false_and, or_false, false_or, not_true_eq_false, not_false_eq_true, Int32.lt_iff_toInt_lt, Int64.lt_iff_toInt_lt, ← Int32.toInt_inj, ← Int64.toInt_inj, Int32.reduceToInt, Int64.reduceToInt] at *
  omega
set_option maxRecDepth 65536 in
set_option maxHeartbeats 40000000 in
theorem own_inv2_1 (o0 : Addr) (i1 : Int32) (i2 : Int32) (k1 : ClassId) (n1 : Int32) (vs : List Value) (dv : Value) (g : Int32 → Int32) (R : Int32) (k : Nat) (ix : Int32) (u1 : Int32) (hg : ∀ j : Int32, ¬ j < (0 : Int32) ∧ j < n1 → vs.getD j.toNatClampNeg dv = .int (g j)) (hf : ¬ i1 < (0 : Int32)) (ht : ¬ n1 < i2) (hn : n1.toInt < 1000) (hft : ¬ i2 < i1) (hp : own_pl g i1 i2 u1 = own_pm g i1 i2 u1) (hR : R = loopP g (i2.toInt - u1.toInt).toNat u1) (hk : (i2.toInt - ix.toInt).toNat = (k + 1)) (h0 : ¬ ix < (0 : Int32)) (hu1 : u1 = (if i1 < i2 then (if (g i1) = (45 : Int32) then (i1 + (1 : Int32)) else i1) else i1)) (c50 : ¬ u1 = i1) (c70 : ¬ (48 : Int32) < (g ix)) : ¬ (ix + (1 : Int32)) < (0 : Int32) := by
  clear hR hp hg
  have ca_0 := c_iadd ix 1
  have ca_1 := c_iadd i1 (1 : Int32)
  have ca_2 := c_iadd ix (1 : Int32)
  have bl_0 := (i1).le_toInt; have bu_0 := (i1).toInt_lt
  have bl_1 := (i2).le_toInt; have bu_1 := (i2).toInt_lt
  have bl_2 := (n1).le_toInt; have bu_2 := (n1).toInt_lt
  have bl_3 := (ix).le_toInt; have bu_3 := (ix).toInt_lt
  have bl_4 := (u1).le_toInt; have bu_4 := (u1).toInt_lt
  have bl_5 := (i1 + (1 : Int32)).le_toInt; have bu_5 := (i1 + (1 : Int32)).toInt_lt
  have bl_6 := (ix + (1 : Int32)).le_toInt; have bu_6 := (ix + (1 : Int32)).toInt_lt
  have bl_7 := (ix + 1).le_toInt; have bu_7 := (ix + 1).toInt_lt
  try simp only [own_eqite, own_iteeq] at *
  try simp only [ne_eq, and_true, true_and, or_true, true_or, and_false, false_and, or_false, false_or, not_true_eq_false, not_false_eq_true, Int32.lt_iff_toInt_lt, Int64.lt_iff_toInt_lt, ← Int32.toInt_inj, ← Int64.toInt_inj, Int32.reduceToInt, Int64.reduceToInt] at *
  omega
set_option maxRecDepth 65536 in
set_option maxHeartbeats 40000000 in
theorem own_pre2_6 (o0 : Addr) (i1 : Int32) (i2 : Int32) (k1 : ClassId) (n1 : Int32) (vs : List Value) (dv : Value) (g : Int32 → Int32) (R : Int32) (k : Nat) (ix : Int32) (u1 : Int32) (hg : ∀ j : Int32, ¬ j < (0 : Int32) ∧ j < n1 → vs.getD j.toNatClampNeg dv = .int (g j)) (hf : ¬ i1 < (0 : Int32)) (ht : ¬ n1 < i2) (hn : n1.toInt < 1000) (hft : ¬ i2 < i1) (hp : own_pl g i1 i2 u1 = own_pm g i1 i2 u1) (hR : R = loopP g (i2.toInt - u1.toInt).toNat u1) (hk : (i2.toInt - ix.toInt).toNat = (k + 1)) (h0 : ¬ ix < (0 : Int32)) (hu1 : u1 = (if i1 < i2 then (if (g i1) = (45 : Int32) then (i1 + (1 : Int32)) else i1) else i1)) (c50 : ¬ u1 = i1) (c70 : (48 : Int32) < (g ix)) : ¬ ix < (0 : Int32) ∧ ix < n1 := by
  clear hR hp hg
  have ca_0 := c_iadd i1 (1 : Int32)
  have bl_0 := (i1).le_toInt; have bu_0 := (i1).toInt_lt
  have bl_1 := (i2).le_toInt; have bu_1 := (i2).toInt_lt
  have bl_2 := (n1).le_toInt; have bu_2 := (n1).toInt_lt
  have bl_3 := (ix).le_toInt; have bu_3 := (ix).toInt_lt
  have bl_4 := (u1).le_toInt; have bu_4 := (u1).toInt_lt
  have bl_5 := (i1 + (1 : Int32)).le_toInt; have bu_5 := (i1 + (1 : Int32)).toInt_lt
  try simp only [own_eqite, own_iteeq] at *
  try simp only [ne_eq, and_true, true_and, or_true, true_or, and_false, false_and, or_false, false_or, not_true_eq_false, not_false_eq_true, Int32.lt_iff_toInt_lt, Int64.lt_iff_toInt_lt, ← Int32.toInt_inj, ← Int64.toInt_inj, Int32.reduceToInt, Int64.reduceToInt] at *
  omega
set_option maxRecDepth 65536 in
set_option maxHeartbeats 40000000 in
theorem own_inv2_2 (o0 : Addr) (i1 : Int32) (i2 : Int32) (k1 : ClassId) (n1 : Int32) (vs : List Value) (dv : Value) (g : Int32 → Int32) (R : Int32) (k : Nat) (ix : Int32) (u1 : Int32) (hg : ∀ j : Int32, ¬ j < (0 : Int32) ∧ j < n1 → vs.getD j.toNatClampNeg dv = .int (g j)) (hf : ¬ i1 < (0 : Int32)) (ht : ¬ n1 < i2) (hn : n1.toInt < 1000) (hft : ¬ i2 < i1) (hp : own_pl g i1 i2 u1 = own_pm g i1 i2 u1) (hR : R = loopP g (i2.toInt - u1.toInt).toNat u1) (hk : (i2.toInt - ix.toInt).toNat = (k + 1)) (h0 : ¬ ix < (0 : Int32)) (hu1 : u1 = (if i1 < i2 then (if (g i1) = (45 : Int32) then (i1 + (1 : Int32)) else i1) else i1)) (c50 : ¬ u1 = i1) (c70 : (48 : Int32) < (g ix)) (c79 : (57 : Int32) < (g ix)) : (i2.toInt - (ix + (1 : Int32)).toInt).toNat = k := by
  clear hR hp hg
  have ca_0 := c_iadd ix 1
  have ca_1 := c_iadd i1 (1 : Int32)
  have bl_0 := (i1).le_toInt; have bu_0 := (i1).toInt_lt
  have bl_1 := (i2).le_toInt; have bu_1 := (i2).toInt_lt
  have bl_2 := (n1).le_toInt; have bu_2 := (n1).toInt_lt
  have bl_3 := (ix).le_toInt; have bu_3 := (ix).toInt_lt
  have bl_4 := (u1).le_toInt; have bu_4 := (u1).toInt_lt
  have bl_5 := (i1 + (1 : Int32)).le_toInt; have bu_5 := (i1 + (1 : Int32)).toInt_lt
  have bl_6 := (ix + 1).le_toInt; have bu_6 := (ix + 1).toInt_lt
  try simp only [own_eqite, own_iteeq] at *
  try simp only [ne_eq, and_true, true_and, or_true, true_or, and_false, false_and, or_false, false_or, not_true_eq_false, not_false_eq_true, Int32.lt_iff_toInt_lt, Int64.lt_iff_toInt_lt, ← Int32.toInt_inj, ← Int64.toInt_inj, Int32.reduceToInt, Int64.reduceToInt] at *
  omega
set_option maxRecDepth 65536 in
set_option maxHeartbeats 40000000 in
theorem own_inv2_3 (o0 : Addr) (i1 : Int32) (i2 : Int32) (k1 : ClassId) (n1 : Int32) (vs : List Value) (dv : Value) (g : Int32 → Int32) (R : Int32) (k : Nat) (ix : Int32) (u1 : Int32) (hg : ∀ j : Int32, ¬ j < (0 : Int32) ∧ j < n1 → vs.getD j.toNatClampNeg dv = .int (g j)) (hf : ¬ i1 < (0 : Int32)) (ht : ¬ n1 < i2) (hn : n1.toInt < 1000) (hft : ¬ i2 < i1) (hp : own_pl g i1 i2 u1 = own_pm g i1 i2 u1) (hR : R = loopP g (i2.toInt - u1.toInt).toNat u1) (hk : (i2.toInt - ix.toInt).toNat = (k + 1)) (h0 : ¬ ix < (0 : Int32)) (hu1 : u1 = (if i1 < i2 then (if (g i1) = (45 : Int32) then (i1 + (1 : Int32)) else i1) else i1)) (c50 : ¬ u1 = i1) (c70 : (48 : Int32) < (g ix)) (c79 : (57 : Int32) < (g ix)) : ¬ (ix + (1 : Int32)) < (0 : Int32) := by
  clear hR hp hg
  have ca_0 := c_iadd ix 1
  have ca_1 := c_iadd i1 (1 : Int32)
  have ca_2 := c_iadd ix (1 : Int32)
  have bl_0 := (i1).le_toInt; have bu_0 := (i1).toInt_lt
  have bl_1 := (i2).le_toInt; have bu_1 := (i2).toInt_lt
  have bl_2 := (n1).le_toInt; have bu_2 := (n1).toInt_lt
  have bl_3 := (ix).le_toInt; have bu_3 := (ix).toInt_lt
  have bl_4 := (u1).le_toInt; have bu_4 := (u1).toInt_lt
  have bl_5 := (i1 + (1 : Int32)).le_toInt; have bu_5 := (i1 + (1 : Int32)).toInt_lt
  have bl_6 := (ix + (1 : Int32)).le_toInt; have bu_6 := (ix + (1 : Int32)).toInt_lt
  have bl_7 := (ix + 1).le_toInt; have bu_7 := (ix + 1).toInt_lt
  try simp only [own_eqite, own_iteeq] at *
  try simp only [ne_eq, and_true, true_and, or_true, true_or, and_false, false_and, or_false, false_or, not_true_eq_false, not_false_eq_true, Int32.lt_iff_toInt_lt, Int64.lt_iff_toInt_lt, ← Int32.toInt_inj, ← Int64.toInt_inj, Int32.reduceToInt, Int64.reduceToInt] at *
  omega
set_option maxRecDepth 65536 in
set_option maxHeartbeats 40000000 in
theorem own_ret2_2 (o0 : Addr) (i1 : Int32) (i2 : Int32) (k1 : ClassId) (n1 : Int32) (vs : List Value) (dv : Value) (g : Int32 → Int32) (R : Int32) (k : Nat) (ix : Int32) (u1 : Int32) (hg : ∀ j : Int32, ¬ j < (0 : Int32) ∧ j < n1 → vs.getD j.toNatClampNeg dv = .int (g j)) (hf : ¬ i1 < (0 : Int32)) (ht : ¬ n1 < i2) (hn : n1.toInt < 1000) (hft : ¬ i2 < i1) (hp : own_pl g i1 i2 u1 = own_pm g i1 i2 u1) (hR : R = loopP g (i2.toInt - u1.toInt).toNat u1) (hk : (i2.toInt - ix.toInt).toNat = (k + 1)) (h0 : ¬ ix < (0 : Int32)) (hI : (1 : Int32) = R) (hu1 : u1 = (if i1 < i2 then (if (g i1) = (45 : Int32) then (i1 + (1 : Int32)) else i1) else i1)) (c50 : ¬ u1 = i1) : (1 : Int32) = (plainF g i1 i2) := by
  first | rw [plainF, ← hu1, own_pl, if_pos c25, if_pos c33, if_neg c43] | (rw [plainF, ← hu1, hp, own_pm, if_neg c50]; exact hI.trans hR) | rw [plainF, ← hu1, hp, own_pm, if_pos c50]
set_option maxRecDepth 65536 in
set_option maxHeartbeats 40000000 in
theorem own_inv2_4 (o0 : Addr) (i1 : Int32) (i2 : Int32) (k1 : ClassId) (n1 : Int32) (vs : List Value) (dv : Value) (g : Int32 → Int32) (u1 : Int32) (hg : ∀ j : Int32, ¬ j < (0 : Int32) ∧ j < n1 → vs.getD j.toNatClampNeg dv = .int (g j)) (hf : ¬ i1 < (0 : Int32)) (ht : ¬ n1 < i2) (hn : n1.toInt < 1000) (hft : ¬ i2 < i1) (hp : own_pl g i1 i2 u1 = own_pm g i1 i2 u1) (hu1 : u1 = (if i1 < i2 then (if (g i1) = (45 : Int32) then (i1 + (1 : Int32)) else i1) else i1)) (c50 : ¬ u1 = i1) : ¬ u1 < (0 : Int32) := by
  clear hp hg
  have ca_0 := c_iadd i1 (1 : Int32)
  have bl_0 := (i1).le_toInt; have bu_0 := (i1).toInt_lt
  have bl_1 := (i2).le_toInt; have bu_1 := (i2).toInt_lt
  have bl_2 := (n1).le_toInt; have bu_2 := (n1).toInt_lt
  have bl_3 := (u1).le_toInt; have bu_3 := (u1).toInt_lt
  have bl_4 := (i1 + (1 : Int32)).le_toInt; have bu_4 := (i1 + (1 : Int32)).toInt_lt
  try simp only [own_eqite, own_iteeq] at *
  try simp only [ne_eq, and_true, true_and, or_true, true_or, and_false, false_and, or_false, false_or, not_true_eq_false, not_false_eq_true, Int32.lt_iff_toInt_lt, Int64.lt_iff_toInt_lt, ← Int32.toInt_inj, ← Int64.toInt_inj, Int32.reduceToInt, Int64.reduceToInt] at *
  omega
set_option maxRecDepth 65536 in
set_option maxHeartbeats 40000000 in
theorem own_ret2_3 (o0 : Addr) (i1 : Int32) (i2 : Int32) (k1 : ClassId) (n1 : Int32) (vs : List Value) (dv : Value) (g : Int32 → Int32) (u1 : Int32) (hg : ∀ j : Int32, ¬ j < (0 : Int32) ∧ j < n1 → vs.getD j.toNatClampNeg dv = .int (g j)) (hf : ¬ i1 < (0 : Int32)) (ht : ¬ n1 < i2) (hn : n1.toInt < 1000) (hft : ¬ i2 < i1) (hp : own_pl g i1 i2 u1 = own_pm g i1 i2 u1) (hu1 : u1 = (if i1 < i2 then (if (g i1) = (45 : Int32) then (i1 + (1 : Int32)) else i1) else i1)) (c50 : u1 = i1) : (1 : Int32) = (plainF g i1 i2) := by
  first | rw [plainF, ← hu1, own_pl, if_pos c25, if_pos c33, if_neg c43] | (rw [plainF, ← hu1, hp, own_pm, if_neg c50]; exact hI.trans hR) | rw [plainF, ← hu1, hp, own_pm, if_pos c50]
theorem pn2 : plainName "com/example/exdate/exdate/Values" = true := by first | (simp [plainName, overriddenIn]; done) | decide +kernel
theorem pd2 : parseMethodDescriptor "([BII)Z" = some ⟨[(.array .byte), .int, .int], some .boolean⟩ := by decide +kernel
theorem ef2 (m : MethodId) (o0 : Addr) (i1 : Int32) (i2 : Int32) : entryFrame m #[(.ref o0), (.int i1), (.int i2)] 5 = mkF m 0 #[.val (.ref o0), .val (.int i1), .val (.int i2), .unset, .unset] [] := by first | (simp [entryFrame, mkF, argsToLocals, Value.category]; done) | rfl
theorem d2_0 : decode prog_32_method_9_code 0 = .ok (.iload_n 1, 1) := by decide +kernel
theorem d2_1 : decode prog_32_method_9_code 1 = .ok (.iload_n 2, 1) := by decide +kernel
theorem d2_2 : decode prog_32_method_9_code 2 = .ok (.if_icmp .ge 17, 3) := by decide +kernel
theorem d2_5 : decode prog_32_method_9_code 5 = .ok (.aload_n 0, 1) := by decide +kernel
theorem d2_6 : decode prog_32_method_9_code 6 = .ok (.iload_n 1, 1) := by decide +kernel
theorem d2_7 : decode prog_32_method_9_code 7 = .ok (.baload, 1) := by decide +kernel
theorem d2_8 : decode prog_32_method_9_code 8 = .ok (.bipush 45, 2) := by decide +kernel
theorem d2_10 : decode prog_32_method_9_code 10 = .ok (.if_icmp .ne 9, 3) := by decide +kernel
theorem d2_13 : decode prog_32_method_9_code 13 = .ok (.iload_n 1, 1) := by decide +kernel
theorem d2_14 : decode prog_32_method_9_code 14 = .ok (.iconst 1, 1) := by decide +kernel
theorem d2_15 : decode prog_32_method_9_code 15 = .ok (.iadd, 1) := by decide +kernel
theorem d2_16 : decode prog_32_method_9_code 16 = .ok (.goto 4, 3) := by decide +kernel
theorem d2_19 : decode prog_32_method_9_code 19 = .ok (.iload_n 1, 1) := by decide +kernel
theorem d2_20 : decode prog_32_method_9_code 20 = .ok (.istore_n 3, 1) := by decide +kernel
theorem d2_21 : decode prog_32_method_9_code 21 = .ok (.iload_n 3, 1) := by decide +kernel
theorem d2_22 : decode prog_32_method_9_code 22 = .ok (.iconst 1, 1) := by decide +kernel
theorem d2_23 : decode prog_32_method_9_code 23 = .ok (.iadd, 1) := by decide +kernel
theorem d2_24 : decode prog_32_method_9_code 24 = .ok (.iload_n 2, 1) := by decide +kernel
theorem d2_25 : decode prog_32_method_9_code 25 = .ok (.if_icmp .ge 23, 3) := by decide +kernel
theorem d2_28 : decode prog_32_method_9_code 28 = .ok (.aload_n 0, 1) := by decide +kernel
theorem d2_29 : decode prog_32_method_9_code 29 = .ok (.iload_n 3, 1) := by decide +kernel
theorem d2_30 : decode prog_32_method_9_code 30 = .ok (.baload, 1) := by decide +kernel
theorem d2_31 : decode prog_32_method_9_code 31 = .ok (.bipush 48, 2) := by decide +kernel
theorem d2_33 : decode prog_32_method_9_code 33 = .ok (.if_icmp .ne 15, 3) := by decide +kernel
theorem d2_36 : decode prog_32_method_9_code 36 = .ok (.aload_n 0, 1) := by decide +kernel
theorem d2_37 : decode prog_32_method_9_code 37 = .ok (.iload_n 3, 1) := by decide +kernel
theorem d2_38 : decode prog_32_method_9_code 38 = .ok (.iconst 1, 1) := by decide +kernel
theorem d2_39 : decode prog_32_method_9_code 39 = .ok (.iadd, 1) := by decide +kernel
theorem d2_40 : decode prog_32_method_9_code 40 = .ok (.baload, 1) := by decide +kernel
theorem d2_41 : decode prog_32_method_9_code 41 = .ok (.bipush 46, 2) := by decide +kernel
theorem d2_43 : decode prog_32_method_9_code 43 = .ok (.if_icmp .eq 5, 3) := by decide +kernel
theorem d2_46 : decode prog_32_method_9_code 46 = .ok (.iconst 0, 1) := by decide +kernel
theorem d2_47 : decode prog_32_method_9_code 47 = .ok (.ireturn, 1) := by decide +kernel
theorem d2_48 : decode prog_32_method_9_code 48 = .ok (.iload_n 3, 1) := by decide +kernel
theorem d2_49 : decode prog_32_method_9_code 49 = .ok (.iload_n 1, 1) := by decide +kernel
theorem d2_50 : decode prog_32_method_9_code 50 = .ok (.if_icmp .ne 5, 3) := by decide +kernel
theorem d2_53 : decode prog_32_method_9_code 53 = .ok (.iconst 1, 1) := by decide +kernel
theorem d2_54 : decode prog_32_method_9_code 54 = .ok (.ireturn, 1) := by decide +kernel
theorem d2_55 : decode prog_32_method_9_code 55 = .ok (.iload_n 3, 1) := by decide +kernel
theorem d2_56 : decode prog_32_method_9_code 56 = .ok (.istore 4, 2) := by decide +kernel
theorem d2_58 : decode prog_32_method_9_code 58 = .ok (.iload 4, 2) := by decide +kernel
theorem d2_60 : decode prog_32_method_9_code 60 = .ok (.iload_n 2, 1) := by decide +kernel
theorem d2_61 : decode prog_32_method_9_code 61 = .ok (.if_icmp .ge 29, 3) := by decide +kernel
theorem d2_64 : decode prog_32_method_9_code 64 = .ok (.aload_n 0, 1) := by decide +kernel
theorem d2_65 : decode prog_32_method_9_code 65 = .ok (.iload 4, 2) := by decide +kernel
theorem d2_67 : decode prog_32_method_9_code 67 = .ok (.baload, 1) := by decide +kernel
theorem d2_68 : decode prog_32_method_9_code 68 = .ok (.bipush 48, 2) := by decide +kernel
theorem d2_70 : decode prog_32_method_9_code 70 = .ok (.if_icmp .le 14, 3) := by decide +kernel
theorem d2_73 : decode prog_32_method_9_code 73 = .ok (.aload_n 0, 1) := by decide +kernel
theorem d2_74 : decode prog_32_method_9_code 74 = .ok (.iload 4, 2) := by decide +kernel
theorem d2_76 : decode prog_32_method_9_code 76 = .ok (.baload, 1) := by decide +kernel
theorem d2_77 : decode prog_32_method_9_code 77 = .ok (.bipush 57, 2) := by decide +kernel
theorem d2_79 : decode prog_32_method_9_code 79 = .ok (.if_icmp .gt 5, 3) := by decide +kernel
theorem d2_82 : decode prog_32_method_9_code 82 = .ok (.iconst 1, 1) := by decide +kernel
theorem d2_83 : decode prog_32_method_9_code 83 = .ok (.ireturn, 1) := by decide +kernel
theorem d2_84 : decode prog_32_method_9_code 84 = .ok (.iinc 4 1, 3) := by decide +kernel
theorem d2_87 : decode prog_32_method_9_code 87 = .ok (.goto (-29), 3) := by decide +kernel
theorem d2_90 : decode prog_32_method_9_code 90 = .ok (.iconst 0, 1) := by decide +kernel
theorem d2_91 : decode prog_32_method_9_code 91 = .ok (.ireturn, 1) := by decide +kernel
set_option maxRecDepth 65536 in
set_option maxHeartbeats 40000000 in
theorem rm2 (l : Launch) (Z : State) (a0 : Array Value) (hw : ∀ d ∈ tables_1, d.before a0 Z = true) (o0 : Addr) (i1 : Int32) (i2 : Int32) (k1 : ClassId) (n1 : Int32) (vs : List Value) (dv : Value) (g : Int32 → Int32) (h0 : Heap) (n0 : Nat) (Z0 : n0 ≤ h0.size) (V_o0 : Arv Z h0 o0 k1 .byte n1 vs dv) (hg : ∀ j : Int32, ¬ j < (0 : Int32) ∧ j < n1 → vs.getD j.toNatClampNeg dv = .int (g j)) (hf : ¬ i1 < (0 : Int32)) (ht : ¬ n1 < i2) (hn : n1.toInt < 1000) (hft : ¬ i2 < i1) :
    Ctr l Z (⟨"com/example/exdate/exdate/Values", "isPlainText", "([BII)Z"⟩ : MethodName) prog_32_method_9_code 5 (some .boolean) ({ frames := 0, cells := 0, slots := 0, locals := 0 } : Room) #[(.ref o0), (.int i1), (.int i2)] h0 n0 (fun v h' => v = some (.int (plainF g i1 i2)) ∧ h' = h0) := by
  refine Ctr.body (L := #[.val (.ref o0), .val (.int i1), .val (.int i2), .unset, .unset]) (plainFor_of_name pn2) Z0 (fun m => ef2 m o0 i1 i2) ?_
  intro p e F m below meth c T0 C0
  refine C0.iloadN d2_0 rfl rfl ?_
  refine C0.iloadN d2_1 rfl rfl ?_
  have J20 : ∀ (T2 : State) (u1 : Int32), Cx p l e ({ frames := 0, cells := 0, slots := 0, locals := 0 } : Room) m #[(.ref o0), (.int i1), (.int i2)] below meth c Z (⟨"com/example/exdate/exdate/Values", "isPlainText", "([BII)Z"⟩ : MethodName) prog_32_method_9_code 5 (some .boolean) n0 false F T2 h0 0 0 → u1 = (if i1 < i2 then (if (g i1) = (45 : Int32) then (i1 + (1 : Int32)) else i1) else i1) → Go p e below F n0 (fun v h' => v = some (.int (plainF g i1 i2)) ∧ h' = h0) T2 (mkF m 20 #[.val (.ref o0), .val (.int i1), .val (.int i2), .unset, .unset] [(.int u1)]) := by
    intro T2 u1 C2 hu1
    refine C2.istoreN d2_20 rfl (L' := #[.val (.ref o0), .val (.int i1), .val (.int i2), .val (.int u1), .unset]) rfl ?_
    refine C2.iloadN d2_21 rfl rfl ?_
    refine C2.iconst (1 : Int32) d2_22 rfl rfl ?_
    refine C2.iadd d2_23 rfl ?_
    refine C2.iloadN d2_24 rfl rfl ?_
    have J48 : ∀ (T3 : State), Cx p l e ({ frames := 0, cells := 0, slots := 0, locals := 0 } : Room) m #[(.ref o0), (.int i1), (.int i2)] below meth c Z (⟨"com/example/exdate/exdate/Values", "isPlainText", "([BII)Z"⟩ : MethodName) prog_32_method_9_code 5 (some .boolean) n0 false F T3 h0 0 0 → (own_pl g i1 i2 u1 = own_pm g i1 i2 u1) → Go p e below F n0 (fun v h' => v = some (.int (plainF g i1 i2)) ∧ h' = h0) T3 (mkF m 48 #[.val (.ref o0), .val (.int i1), .val (.int i2), .val (.int u1), .unset] []) := by
      intro T3 C3 hp
      refine C3.iloadN d2_48 rfl rfl ?_
      refine C3.iloadN d2_49 rfl rfl ?_
      refine C3.icmp_ne d2_50 (by decide) (by decide : _ = 55) rfl (fun c50 => ?_) (fun c50 => ?_)
      · refine C3.iloadN d2_55 rfl rfl ?_
        refine C3.istore d2_56 rfl (L' := #[.val (.ref o0), .val (.int i1), .val (.int i2), .val (.int u1), .val (.int u1)]) rfl ?_
        obtain ⟨R, hR⟩ : ∃ z, z = loopP g (i2.toInt - u1.toInt).toNat u1 := ⟨_, rfl⟩
        have LP : ∀ (k : Nat) (T : State) (ix : Int32), Cx p l e ({ frames := 0, cells := 0, slots := 0, locals := 0 } : Room) m #[(.ref o0), (.int i1), (.int i2)] below meth c Z (⟨"com/example/exdate/exdate/Values", "isPlainText", "([BII)Z"⟩ : MethodName) prog_32_method_9_code 5 (some .boolean) n0 false F T h0 0 0 → loopP g k ix = R → ((i2.toInt - ix.toInt).toNat = k) → (¬ ix < (0 : Int32)) → Go p e below F n0 (fun v h' => v = some (.int (plainF g i1 i2)) ∧ h' = h0) T (mkF m 58 #[.val (.ref o0), .val (.int i1), .val (.int i2), .val (.int u1), .val (.int ix)] []) := by
          intro k
          induction k with
          | zero =>
            intro T4 ix C4 hI hk h0
            refine C4.iload d2_58 rfl rfl ?_
            refine C4.iloadN d2_60 rfl rfl ?_
            refine C4.icmp_ge d2_61 (by decide) (by decide : _ = 90) rfl (fun _ => ?_) (fun q => absurd q (own_pre2_3 o0 i1 i2 k1 n1 vs dv g R ix u1 hg hf ht hn hft hp hR hk h0 hu1 c50))
            refine C4.iconst (0 : Int32) d2_90 rfl rfl ?_
            simp only [loopP] at hI
            exact C4.retN (t := .boolean) d2_91 rfl (by simp) (by decide) (by decide) (w := (0 : Int32)) rfl ⟨congrArg (fun z => some (Value.int z)) (own_ret2_1 o0 i1 i2 k1 n1 vs dv g R ix u1 hg hf ht hn hft hp hR hk h0 hI hu1 c50), rfl⟩
          | succ k ih =>
            intro T5 ix C5 hI hk h0
            refine C5.iload d2_58 rfl rfl ?_
            refine C5.iloadN d2_60 rfl rfl ?_
            refine C5.icmp_ge d2_61 (by decide) (by decide : _ = 90) rfl (fun q => absurd (own_pre2_4 o0 i1 i2 k1 n1 vs dv g R k ix u1 hg hf ht hn hft hp hR hk h0 hu1 c50) q) (fun _ => ?_)
            refine C5.aloadN d2_64 rfl rfl rfl ?_
            refine C5.iload d2_65 rfl rfl ?_
            refine C5.baload (v := (g ix)) V_o0 (own_pre2_5 o0 i1 i2 k1 n1 vs dv g R k ix u1 hg hf ht hn hft hp hR hk h0 hu1 c50) (hg ix (own_pre2_5 o0 i1 i2 k1 n1 vs dv g R k ix u1 hg hf ht hn hft hp hR hk h0 hu1 c50)) d2_67 rfl ?_
            refine C5.bipush (48 : Int32) d2_68 rfl rfl ?_
            refine C5.icmp_le d2_70 (by decide) (by decide : _ = 84) rfl (fun c70 => ?_) (fun c70 => ?_)
            · refine C5.iinc (1 : Int32) d2_84 rfl rfl rfl (L' := #[.val (.ref o0), .val (.int i1), .val (.int i2), .val (.int u1), .val (.int (ix + (1 : Int32)))]) rfl ?_
              refine C5.goto d2_87 (by decide) (by decide : _ = 58) ?_
              simp only [loopP, if_neg c70] at hI
              exact ih _ (ix + (1 : Int32)) C5 hI (own_inv2_0 o0 i1 i2 k1 n1 vs dv g R k ix u1 hg hf ht hn hft hp hR hk h0 hu1 c50 c70) (own_inv2_1 o0 i1 i2 k1 n1 vs dv g R k ix u1 hg hf ht hn hft hp hR hk h0 hu1 c50 c70)
            · refine C5.aloadN d2_73 rfl rfl rfl ?_
              refine C5.iload d2_74 rfl rfl ?_
              refine C5.baload (v := (g ix)) V_o0 (own_pre2_6 o0 i1 i2 k1 n1 vs dv g R k ix u1 hg hf ht hn hft hp hR hk h0 hu1 c50 c70) (hg ix (own_pre2_6 o0 i1 i2 k1 n1 vs dv g R k ix u1 hg hf ht hn hft hp hR hk h0 hu1 c50 c70)) d2_76 rfl ?_
              refine C5.bipush (57 : Int32) d2_77 rfl rfl ?_
              refine C5.icmp_gt d2_79 (by decide) (by decide : _ = 84) rfl (fun c79 => ?_) (fun c79 => ?_)
              · refine C5.iinc (1 : Int32) d2_84 rfl rfl rfl (L' := #[.val (.ref o0), .val (.int i1), .val (.int i2), .val (.int u1), .val (.int (ix + (1 : Int32)))]) rfl ?_
                refine C5.goto d2_87 (by decide) (by decide : _ = 58) ?_
                simp only [loopP, if_pos c70, if_pos c79] at hI
                exact ih _ (ix + (1 : Int32)) C5 hI (own_inv2_2 o0 i1 i2 k1 n1 vs dv g R k ix u1 hg hf ht hn hft hp hR hk h0 hu1 c50 c70 c79) (own_inv2_3 o0 i1 i2 k1 n1 vs dv g R k ix u1 hg hf ht hn hft hp hR hk h0 hu1 c50 c70 c79)
              · refine C5.iconst (1 : Int32) d2_82 rfl rfl ?_
                simp only [loopP, if_pos c70, if_neg c79] at hI
                exact C5.retN (t := .boolean) d2_83 rfl (by simp) (by decide) (by decide) (w := (1 : Int32)) rfl ⟨congrArg (fun z => some (Value.int z)) (own_ret2_2 o0 i1 i2 k1 n1 vs dv g R k ix u1 hg hf ht hn hft hp hR hk h0 hI hu1 c50), rfl⟩
        exact LP _ _ u1 C3 hR.symm rfl (own_inv2_4 o0 i1 i2 k1 n1 vs dv g u1 hg hf ht hn hft hp hu1 c50)
      · refine C3.iconst (1 : Int32) d2_53 rfl rfl ?_
        exact C3.retN (t := .boolean) d2_54 rfl (by simp) (by decide) (by decide) (w := (1 : Int32)) rfl ⟨congrArg (fun z => some (Value.int z)) (own_ret2_3 o0 i1 i2 k1 n1 vs dv g u1 hg hf ht hn hft hp hu1 c50), rfl⟩
    refine C2.icmp_ge d2_25 (by decide) (by decide : _ = 48) rfl (fun c25 => ?_) (fun c25 => ?_)
    · exact J48 _ C2 (by simp only [own_pl, if_neg c25])
    · refine C2.aloadN d2_28 rfl rfl rfl ?_
      refine C2.iloadN d2_29 rfl rfl ?_
      refine C2.baload (v := (g u1)) V_o0 (own_pre2_1 o0 i1 i2 k1 n1 vs dv g u1 hg hf ht hn hft hu1 c25) (hg u1 (own_pre2_1 o0 i1 i2 k1 n1 vs dv g u1 hg hf ht hn hft hu1 c25)) d2_30 rfl ?_
      refine C2.bipush (48 : Int32) d2_31 rfl rfl ?_
      refine C2.icmp_ne d2_33 (by decide) (by decide : _ = 48) rfl (fun c33 => ?_) (fun c33 => ?_)
      · exact J48 _ C2 (by simp only [own_pl, if_pos c25, if_neg c33])
      · refine C2.aloadN d2_36 rfl rfl rfl ?_
        refine C2.iloadN d2_37 rfl rfl ?_
        refine C2.iconst (1 : Int32) d2_38 rfl rfl ?_
        refine C2.iadd d2_39 rfl ?_
        refine C2.baload (v := (g (u1 + (1 : Int32)))) V_o0 (own_pre2_2 o0 i1 i2 k1 n1 vs dv g u1 hg hf ht hn hft hu1 c25 c33) (hg (u1 + (1 : Int32)) (own_pre2_2 o0 i1 i2 k1 n1 vs dv g u1 hg hf ht hn hft hu1 c25 c33)) d2_40 rfl ?_
        refine C2.bipush (46 : Int32) d2_41 rfl rfl ?_
        refine C2.icmp_eq d2_43 (by decide) (by decide : _ = 48) rfl (fun c43 => ?_) (fun c43 => ?_)
        · exact J48 _ C2 (by simp only [own_pl, if_pos c25, if_pos c33, if_pos c43])
        · refine C2.iconst (0 : Int32) d2_46 rfl rfl ?_
          exact C2.retN (t := .boolean) d2_47 rfl (by simp) (by decide) (by decide) (w := (0 : Int32)) rfl ⟨congrArg (fun z => some (Value.int z)) (own_ret2_0 o0 i1 i2 k1 n1 vs dv g u1 hg hf ht hn hft hu1 c25 c33 c43), rfl⟩
  refine C0.icmp_ge d2_2 (by decide) (by decide : _ = 19) rfl (fun c2 => ?_) (fun c2 => ?_)
  · refine C0.iloadN d2_19 rfl rfl ?_
    exact J20 _ i1 C0 (by simp only [if_neg c2])
  · refine C0.aloadN d2_5 rfl rfl rfl ?_
    refine C0.iloadN d2_6 rfl rfl ?_
    refine C0.baload (v := (g i1)) V_o0 (own_pre2_0 o0 i1 i2 k1 n1 vs dv g hg hf ht hn hft c2) (hg i1 (own_pre2_0 o0 i1 i2 k1 n1 vs dv g hg hf ht hn hft c2)) d2_7 rfl ?_
    refine C0.bipush (45 : Int32) d2_8 rfl rfl ?_
    refine C0.icmp_ne d2_10 (by decide) (by decide : _ = 19) rfl (fun c10 => ?_) (fun c10 => ?_)
    · refine C0.iloadN d2_19 rfl rfl ?_
      exact J20 _ i1 C0 (by simp only [if_pos c2, if_neg c10])
    · refine C0.iloadN d2_13 rfl rfl ?_
      refine C0.iconst (1 : Int32) d2_14 rfl rfl ?_
      refine C0.iadd d2_15 rfl ?_
      refine C0.goto d2_16 (by decide) (by decide : _ = 20) ?_
      exact J20 _ (i1 + (1 : Int32)) C0 (by simp only [if_pos c2, if_pos c10])
theorem own_mem1 (x : Int32) (h : 0 ≤ x.toInt) (h' : x.toInt ≤ 1) : x ∈ ([(0 : Int32), (1 : Int32)] : List Int32) := by
  have q : x.toInt = 0 ∨ x.toInt = 1 := by omega
  rcases q with q | q
  · rw [show x = (0 : Int32) from Int32.toInt_inj.mp q]; simp
  · rw [show x = (1 : Int32) from Int32.toInt_inj.mp q]; simp
theorem own_mem3 (x : Int32) (h : 0 ≤ x.toInt) (h' : x.toInt ≤ 3) : x ∈ ([(0 : Int32), (1 : Int32), (2 : Int32), (3 : Int32)] : List Int32) := by
  have q : x.toInt = 0 ∨ x.toInt = 1 ∨ x.toInt = 2 ∨ x.toInt = 3 := by omega
  rcases q with q | q | q | q
  · rw [show x = (0 : Int32) from Int32.toInt_inj.mp q]; simp
  · rw [show x = (1 : Int32) from Int32.toInt_inj.mp q]; simp
  · rw [show x = (2 : Int32) from Int32.toInt_inj.mp q]; simp
  · rw [show x = (3 : Int32) from Int32.toInt_inj.mp q]; simp
theorem own_mem9 (x : Int32) (h : 0 ≤ x.toInt) (h' : x.toInt ≤ 9) : x ∈ ([(0 : Int32), (1 : Int32), (2 : Int32), (3 : Int32), (4 : Int32), (5 : Int32), (6 : Int32), (7 : Int32), (8 : Int32), (9 : Int32)] : List Int32) := by
  have q : x.toInt = 0 ∨ x.toInt = 1 ∨ x.toInt = 2 ∨ x.toInt = 3 ∨ x.toInt = 4 ∨ x.toInt = 5 ∨ x.toInt = 6 ∨ x.toInt = 7 ∨ x.toInt = 8 ∨ x.toInt = 9 := by omega
  rcases q with q | q | q | q | q | q | q | q | q | q
  · rw [show x = (0 : Int32) from Int32.toInt_inj.mp q]; simp
  · rw [show x = (1 : Int32) from Int32.toInt_inj.mp q]; simp
  · rw [show x = (2 : Int32) from Int32.toInt_inj.mp q]; simp
  · rw [show x = (3 : Int32) from Int32.toInt_inj.mp q]; simp
  · rw [show x = (4 : Int32) from Int32.toInt_inj.mp q]; simp
  · rw [show x = (5 : Int32) from Int32.toInt_inj.mp q]; simp
  · rw [show x = (6 : Int32) from Int32.toInt_inj.mp q]; simp
  · rw [show x = (7 : Int32) from Int32.toInt_inj.mp q]; simp
  · rw [show x = (8 : Int32) from Int32.toInt_inj.mp q]; simp
  · rw [show x = (9 : Int32) from Int32.toInt_inj.mp q]; simp
theorem own_f1b (a b : Int32) : 0 ≤ (f1 a b).toInt ∧ (f1 a b).toInt ≤ 9 := by
  have ca_0 := c_mask ((a.toUInt32 >>> (((4 : Int32) * b) &&& 31).toUInt32).toInt32) 15 4 (by decide) (by decide)
  have ca_1 := c_irem (((a.toUInt32 >>> (((4 : Int32) * b) &&& 31).toUInt32).toInt32) &&& 15) 10 10 rfl
  try simp only [f1, own_eqite, own_iteeq] at *
  try simp only [ne_eq, and_true, true_and, or_true, true_or, and_false, false_and, or_false, false_or, not_true_eq_false, not_false_eq_true, Int32.lt_iff_toInt_lt, Int64.lt_iff_toInt_lt, ← Int32.toInt_inj, ← Int64.toInt_inj, Int32.reduceToInt, Int64.reduceToInt] at *
  omega
theorem own_if {α : Type} {P Q : Prop} [Decidable P] [Decidable Q] (h : P ↔ Q) (a b : α) : (if P then a else b) = (if Q then a else b) := by
  by_cases p : P
  · rw [if_pos p, if_pos (h.mp p)]
  · rw [if_neg p, if_neg (fun q => p (h.mpr q))]
theorem own_zz (v : Int32) : ∃ z : Int32, z ∈ ([0, 1] : List Int32) ∧ (v = (0 : Int32) ↔ z = (0 : Int32)) := by
  by_cases h : v = (0 : Int32)
  · exact ⟨0, by simp, by simp [h]⟩
  · exact ⟨1, by simp, by simp [h]⟩
def own_cl (y : Int32) : Nat := if y = (45 : Int32) then 1 else if y = (46 : Int32) then 2 else if y = (48 : Int32) then 3 else if (48 : Int32) < y then (if (57 : Int32) < y then 0 else 4) else 0
def own_n (z : Int32) : Nat := if z = (0 : Int32) then 3 else 4
theorem own_dc0 : ∀ d ∈ ([0, 1, 2, 3, 4, 5, 6, 7, 8, 9] : List Int32), ∀ z ∈ ([0, 1] : List Int32), ¬ (d = (0 : Int32) ↔ z = (0 : Int32)) ∨ own_cl (own_byte (.int (nar .byte (((48 : Int32) + d).toInt8.toInt32)))) = own_n z := by decide +kernel
theorem own_dcl (d : Int32) (h : d ∈ ([0, 1, 2, 3, 4, 5, 6, 7, 8, 9] : List Int32)) (z : Int32) (hz : z ∈ ([0, 1] : List Int32)) (e : d = (0 : Int32) ↔ z = (0 : Int32)) : own_cl (own_byte (.int (nar .byte (((48 : Int32) + d).toInt8.toInt32)))) = own_n z := by
  rcases own_dc0 d h z hz with q | q
  · exact absurd e q
  · exact q
theorem own_cl2 {y : Int32} : own_cl y = 2 ↔ y = (46 : Int32) := by
  unfold own_cl; constructor
  · intro h; repeat' split at h
    all_goals first | assumption | (exfalso; revert h; decide)
  · rintro rfl; decide
theorem own_cl1 {y : Int32} : own_cl y = 1 ↔ y = (45 : Int32) := by
  unfold own_cl; constructor
  · intro h; repeat' split at h
    all_goals first | assumption | (exfalso; revert h; decide)
  · rintro rfl; decide
theorem own_cl3 {y : Int32} : own_cl y = 3 ↔ y = (48 : Int32) := by
  unfold own_cl; constructor
  · intro h; repeat' split at h
    all_goals first | assumption | (exfalso; revert h; decide)
  · rintro rfl; decide
theorem own_cl4 {y : Int32} : own_cl y = 4 ↔ ((48 : Int32) < y ∧ ¬ (57 : Int32) < y) := by
  unfold own_cl; constructor
  · intro h; repeat' split at h
    all_goals first | exact ⟨by assumption, by assumption⟩ | (exfalso; revert h; decide)
  · rintro ⟨h1, h2⟩
    rw [if_neg (by rintro rfl; revert h1; decide), if_neg (by rintro rfl; revert h1; decide), if_neg (by rintro rfl; revert h1; decide), if_pos h1, if_neg h2]
def loopQ (c : Int32 → Nat) : Nat → Int32 → Int32
  | 0, _ => (0 : Int32)
  | k + 1, i => if c i = 9 then (7 : Int32) else if c i = 4 then (1 : Int32) else loopQ c k (i + (1 : Int32))
def pmE (c : Int32 → Nat) (i1 i2 q : Int32) : Int32 := if q = i1 then (1 : Int32) else loopQ c (i2.toInt - q.toInt).toNat q
def plE (c : Int32 → Nat) (i1 i2 q : Int32) : Int32 := if (q + (1 : Int32)) < i2 then (if c q = 9 then (7 : Int32) else if c q = 3 then (if c (q + (1 : Int32)) = 9 then (7 : Int32) else if c (q + (1 : Int32)) = 2 then pmE c i1 i2 q else (0 : Int32)) else pmE c i1 i2 q) else pmE c i1 i2 q
def plainE (c : Int32 → Nat) (i1 i2 : Int32) : Int32 := if i1 < i2 then (if c i1 = 9 then (7 : Int32) else if c i1 = 1 then plE c i1 i2 (i1 + (1 : Int32)) else plE c i1 i2 i1) else plE c i1 i2 i1
theorem own_lQ (g : Int32 → Int32) (c : Int32 → Nat) (hc : ∀ j, c j = 9 ∨ c j = own_cl (g j)) : ∀ k i, loopQ c k i = (7 : Int32) ∨ loopP g k i = loopQ c k i := by
  intro k
  induction k with
  | zero => intros; right; rfl
  | succ k ih =>
    intro i
    rw [loopQ, loopP]
    by_cases h9 : c i = 9
    · left; rw [if_pos h9]
    have e := (hc i).resolve_left h9
    by_cases h4 : c i = 4
    · have q := own_cl4.mp (e.symm.trans h4)
      right; rw [if_pos q.1, if_neg q.2, if_neg h9, if_pos h4]
    · rw [if_neg h9, if_neg h4]
      have q : (if (48 : Int32) < g i then (if (57 : Int32) < g i then loopP g k (i + (1 : Int32)) else (1 : Int32)) else loopP g k (i + (1 : Int32))) = loopP g k (i + (1 : Int32)) := by
        by_cases a : (48 : Int32) < g i
        · by_cases b : (57 : Int32) < g i
          · rw [if_pos a, if_pos b]
          · exact absurd (e.trans (own_cl4.mpr ⟨a, b⟩)) h4
        · rw [if_neg a]
      rw [q]; exact ih _
theorem own_pm_ (g : Int32 → Int32) (c : Int32 → Nat) (hc : ∀ j, c j = 9 ∨ c j = own_cl (g j)) (i1 i2 q : Int32) : pmE c i1 i2 q = (7 : Int32) ∨ own_pm g i1 i2 q = pmE c i1 i2 q := by
  rw [pmE, own_pm]
  by_cases a : q = i1
  · right; rw [if_pos a, if_pos a]
  · rw [if_neg a, if_neg a]; exact own_lQ g c hc _ _
theorem own_pl_ (g : Int32 → Int32) (c : Int32 → Nat) (hc : ∀ j, c j = 9 ∨ c j = own_cl (g j)) (i1 i2 q : Int32) : plE c i1 i2 q = (7 : Int32) ∨ own_pl g i1 i2 q = plE c i1 i2 q := by
  rw [plE, own_pl]
  by_cases a : (q + (1 : Int32)) < i2
  · rw [if_pos a, if_pos a]
    by_cases h9 : c q = 9
    · left; rw [if_pos h9]
    have e := (hc q).resolve_left h9
    rw [if_neg h9]
    by_cases h3 : c q = 3
    · rw [if_pos h3, if_pos (own_cl3.mp (e.symm.trans h3))]
      by_cases k9 : c (q + (1 : Int32)) = 9
      · left; rw [if_pos k9]
      have e' := (hc (q + (1 : Int32))).resolve_left k9
      rw [if_neg k9]
      by_cases k2 : c (q + (1 : Int32)) = 2
      · rw [if_pos k2, if_pos (own_cl2.mp (e'.symm.trans k2))]; exact own_pm_ g c hc _ _ _
      · right; rw [if_neg k2, if_neg (fun z => k2 (e'.trans (own_cl2.mpr z)))]
    · rw [if_neg h3, if_neg (fun z => h3 (e.trans (own_cl3.mpr z)))]; exact own_pm_ g c hc _ _ _
  · rw [if_neg a, if_neg a]; exact own_pm_ g c hc _ _ _
theorem own_pE (g : Int32 → Int32) (c : Int32 → Nat) (hc : ∀ j, c j = 9 ∨ c j = own_cl (g j)) (i1 i2 : Int32) : plainE c i1 i2 = (7 : Int32) ∨ plainF g i1 i2 = plainE c i1 i2 := by
  rw [plainE, plainF]
  by_cases a : i1 < i2
  · rw [if_pos a, if_pos a]
    by_cases h9 : c i1 = 9
    · left; rw [if_pos h9]
    have e := (hc i1).resolve_left h9
    rw [if_neg h9]
    by_cases h1 : c i1 = 1
    · rw [if_pos h1, if_pos (own_cl1.mp (e.symm.trans h1))]; exact own_pl_ g c hc _ _ _
    · rw [if_neg h1, if_neg (fun z => h1 (e.trans (own_cl1.mpr z)))]; exact own_pl_ g c hc _ _ _
  · rw [if_neg a, if_neg a]; exact own_pl_ g c hc _ _ _
def own_rl (l : List Nat) (l' : List Value) : Prop := l.length = l'.length ∧ ∀ j, l.getD j 0 = 9 ∨ l.getD j 0 = own_cl (own_byte (l'.getD j (.int (0 : Int32))))
theorem own_gs {α : Type} (l : List α) (i j : Nat) (x d : α) : (l.set i x).getD j d = if i = j ∧ j < l.length then x else l.getD j d := by
  simp only [List.getD_eq_getElem?_getD, List.getElem?_set]
  by_cases a : i = j
  · subst a
    by_cases b : i < l.length
    · simp [b]
    · simp [b]
  · simp [a]
theorem own_rl_set {l : List Nat} {l' : List Value} {i x : Nat} {y : Value} (h : own_rl l l') (q : x = 9 ∨ x = own_cl (own_byte y)) : own_rl (l.set i x) (l'.set i y) := by
  refine ⟨by rw [List.length_set, List.length_set]; exact h.1, fun j => ?_⟩
  rw [own_gs, own_gs, h.1]
  by_cases a : i = j ∧ j < l'.length
  · rw [if_pos a, if_pos a]; exact q
  · rw [if_neg a, if_neg a]; exact h.2 j
theorem own_rl0 (y : Int32) : own_rl [9, 0, 0, 0, 0, 0, 0, 0, 0, 0, 0] [.int y, .int 0, .int 0, .int 0, .int 0, .int 0, .int 0, .int 0, .int 0, .int 0, .int 0] := by
  refine ⟨rfl, fun j => ?_⟩
  by_cases a : j < 11
  · rcases (by omega : j = 0 ∨ j = 1 ∨ j = 2 ∨ j = 3 ∨ j = 4 ∨ j = 5 ∨ j = 6 ∨ j = 7 ∨ j = 8 ∨ j = 9 ∨ j = 10) with rfl | rfl | rfl | rfl | rfl | rfl | rfl | rfl | rfl | rfl | rfl
    · exact Or.inl rfl
    all_goals exact Or.inr (show (0 : Nat) = own_cl (0 : Int32) by decide)
  · right
    rw [List.getD_eq_getElem?_getD, List.getD_eq_getElem?_getD, List.getElem?_eq_none (by simp; omega), List.getElem?_eq_none (by simp; omega)]; decide
def own_E8 (u1 v3 v4 v5 z0 z1 z2 z3 z4 z5 : Int32) (u36 : Int32) (c38 : List Nat) (u40 u42 : Int32) : Bool := decide (plainE (fun j => (c38.set (u36).toNatClampNeg 9).getD j.toNatClampNeg 0) v5 u36 = (if u40 = (0 : Int32) then (if u1 = (0 : Int32) then (1 : Int32) else (if u42 = (0 : Int32) then (1 : Int32) else (0 : Int32))) else (0 : Int32))) && decide (plainE (fun j => (c38.set (u36).toNatClampNeg 9).getD j.toNatClampNeg 0) v5 u36 ≠ (7 : Int32))
def own_E7 (u1 v3 v4 v5 z0 z1 z2 z3 z4 z5 : Int32) (u36 : Int32) (c38 : List Nat) : Bool := own_E8 u1 v3 v4 v5 z0 z1 z2 z3 z4 z5 u36 c38 (if v3 < (2 : Int32) then (0 : Int32) else (if z0 = (0 : Int32) then (1 : Int32) else (0 : Int32))) (if z0 = (0 : Int32) then (if v3 < (2 : Int32) then (if v3 < (3 : Int32) then (if v4 < (1 : Int32) then (if v4 < (2 : Int32) then (if v4 < (3 : Int32) then (1 : Int32) else (if z5 = (0 : Int32) then (1 : Int32) else (0 : Int32))) else (if z4 = (0 : Int32) then (if v4 < (3 : Int32) then (1 : Int32) else (if z5 = (0 : Int32) then (1 : Int32) else (0 : Int32))) else (0 : Int32))) else (if z3 = (0 : Int32) then (if v4 < (2 : Int32) then (if v4 < (3 : Int32) then (1 : Int32) else (if z5 = (0 : Int32) then (1 : Int32) else (0 : Int32))) else (if z4 = (0 : Int32) then (if v4 < (3 : Int32) then (1 : Int32) else (if z5 = (0 : Int32) then (1 : Int32) else (0 : Int32))) else (0 : Int32))) else (0 : Int32))) else (if z2 = (0 : Int32) then (if v4 < (1 : Int32) then (if v4 < (2 : Int32) then (if v4 < (3 : Int32) then (1 : Int32) else (if z5 = (0 : Int32) then (1 : Int32) else (0 : Int32))) else (if z4 = (0 : Int32) then (if v4 < (3 : Int32) then (1 : Int32) else (if z5 = (0 : Int32) then (1 : Int32) else (0 : Int32))) else (0 : Int32))) else (if z3 = (0 : Int32) then (if v4 < (2 : Int32) then (if v4 < (3 : Int32) then (1 : Int32) else (if z5 = (0 : Int32) then (1 : Int32) else (0 : Int32))) else (if z4 = (0 : Int32) then (if v4 < (3 : Int32) then (1 : Int32) else (if z5 = (0 : Int32) then (1 : Int32) else (0 : Int32))) else (0 : Int32))) else (0 : Int32))) else (0 : Int32))) else (if z1 = (0 : Int32) then (if v3 < (3 : Int32) then (if v4 < (1 : Int32) then (if v4 < (2 : Int32) then (if v4 < (3 : Int32) then (1 : Int32) else (if z5 = (0 : Int32) then (1 : Int32) else (0 : Int32))) else (if z4 = (0 : Int32) then (if v4 < (3 : Int32) then (1 : Int32) else (if z5 = (0 : Int32) then (1 : Int32) else (0 : Int32))) else (0 : Int32))) else (if z3 = (0 : Int32) then (if v4 < (2 : Int32) then (if v4 < (3 : Int32) then (1 : Int32) else (if z5 = (0 : Int32) then (1 : Int32) else (0 : Int32))) else (if z4 = (0 : Int32) then (if v4 < (3 : Int32) then (1 : Int32) else (if z5 = (0 : Int32) then (1 : Int32) else (0 : Int32))) else (0 : Int32))) else (0 : Int32))) else (if z2 = (0 : Int32) then (if v4 < (1 : Int32) then (if v4 < (2 : Int32) then (if v4 < (3 : Int32) then (1 : Int32) else (if z5 = (0 : Int32) then (1 : Int32) else (0 : Int32))) else (if z4 = (0 : Int32) then (if v4 < (3 : Int32) then (1 : Int32) else (if z5 = (0 : Int32) then (1 : Int32) else (0 : Int32))) else (0 : Int32))) else (if z3 = (0 : Int32) then (if v4 < (2 : Int32) then (if v4 < (3 : Int32) then (1 : Int32) else (if z5 = (0 : Int32) then (1 : Int32) else (0 : Int32))) else (if z4 = (0 : Int32) then (if v4 < (3 : Int32) then (1 : Int32) else (if z5 = (0 : Int32) then (1 : Int32) else (0 : Int32))) else (0 : Int32))) else (0 : Int32))) else (0 : Int32))) else (0 : Int32))) else (0 : Int32))
def own_E6 (u1 v3 v4 v5 z0 z1 z2 z3 z4 z5 : Int32) (u33 : Int32) (c35 : List Nat) : Bool := own_E7 u1 v3 v4 v5 z0 z1 z2 z3 z4 z5 (if v4 < (3 : Int32) then u33 else (u33 + (1 : Int32))) (if v4 < (3 : Int32) then c35 else (c35.set (u33).toNatClampNeg (own_n z5)))
def own_E5 (u1 v3 v4 v5 z0 z1 z2 z3 z4 z5 : Int32) (u30 : Int32) (c32 : List Nat) : Bool := own_E6 u1 v3 v4 v5 z0 z1 z2 z3 z4 z5 (if v4 < (2 : Int32) then u30 else (u30 + (1 : Int32))) (if v4 < (2 : Int32) then c32 else (c32.set (u30).toNatClampNeg (own_n z4)))
def own_E4 (u1 v3 v4 v5 z0 z1 z2 z3 z4 z5 : Int32) (u27 : Int32) (c29 : List Nat) : Bool := own_E5 u1 v3 v4 v5 z0 z1 z2 z3 z4 z5 (if v4 < (1 : Int32) then u27 else ((u27 + (1 : Int32)) + (1 : Int32))) (if v4 < (1 : Int32) then c29 else ((c29.set (u27).toNatClampNeg 2).set ((u27 + (1 : Int32))).toNatClampNeg (own_n z3)))
def own_E3 (u1 v3 v4 v5 z0 z1 z2 z3 z4 z5 : Int32) (u24 : Int32) (c26 : List Nat) : Bool := own_E4 u1 v3 v4 v5 z0 z1 z2 z3 z4 z5 (if v3 < (3 : Int32) then u24 else (u24 + (1 : Int32))) (if v3 < (3 : Int32) then c26 else (c26.set (u24).toNatClampNeg (own_n z2)))
def own_E2 (u1 v3 v4 v5 z0 z1 z2 z3 z4 z5 : Int32) (u20 : Int32) (c22 : List Nat) : Bool := own_E3 u1 v3 v4 v5 z0 z1 z2 z3 z4 z5 (if v3 < (2 : Int32) then (u20 + (1 : Int32)) else ((u20 + (1 : Int32)) + (1 : Int32))) (if v3 < (2 : Int32) then (c22.set (u20).toNatClampNeg (own_n z0)) else ((c22.set (u20).toNatClampNeg (own_n z0)).set ((u20 + (1 : Int32))).toNatClampNeg (own_n z1)))
def own_E1 (u1 v3 v4 v5 z0 z1 z2 z3 z4 z5 : Int32) : Bool := own_E2 u1 v3 v4 v5 z0 z1 z2 z3 z4 z5 (if u1 = (0 : Int32) then v5 else (v5 + (1 : Int32))) (if u1 = (0 : Int32) then ([9, 0, 0, 0, 0, 0, 0, 0, 0, 0, 0] : List Nat) else (([9, 0, 0, 0, 0, 0, 0, 0, 0, 0, 0] : List Nat).set (v5).toNatClampNeg 1))
theorem own_bf : ∀ u1 ∈ ([0, 1] : List Int32), ∀ v3 ∈ ([0, 1, 2, 3] : List Int32), ∀ v4 ∈ ([0, 1, 2, 3] : List Int32), ∀ v5 ∈ ([0, 1] : List Int32), ∀ z0 ∈ ([0, 1] : List Int32), ∀ z1 ∈ ([0, 1] : List Int32), ∀ z2 ∈ ([0, 1] : List Int32), ∀ z3 ∈ ([0, 1] : List Int32), ∀ z4 ∈ ([0, 1] : List Int32), ∀ z5 ∈ ([0, 1] : List Int32), own_E1 u1 v3 v4 v5 z0 z1 z2 z3 z4 z5 = true := by decide +kernel

set_option maxRecDepth 65536 in
set_option maxHeartbeats 40000000 in
theorem own_pre0 (i0 : Int32) (i1 : Int32) (i2 : Int32) (i3 : Int32) (u1 : Int32) (v3 : Int32) (v4 : Int32) (v5 : Int32) (v7 : Int32) (v9 : Int32) (v11 : Int32) (v13 : Int32) (v15 : Int32) (v17 : Int32) (hu1 : u1 = (if (i0 &&& (1 : Int32)) = (0 : Int32) then (0 : Int32) else (1 : Int32))) (hv3 : v3 = (((((i0.toUInt32 >>> ((1 : Int32) &&& 31).toUInt32).toInt32) &&& (3 : Int32)) % (3 : Int32)) + (1 : Int32))) (hv4 : v4 = (((i0.toUInt32 >>> ((3 : Int32) &&& 31).toUInt32).toInt32) &&& (3 : Int32))) (hv5 : v5 = (((i0.toUInt32 >>> ((5 : Int32) &&& 31).toUInt32).toInt32) &&& (1 : Int32))) (hv7 : v7 = (f1 i1 (0 : Int32))) (hv9 : v9 = (f1 i1 (1 : Int32))) (hv11 : v11 = (f1 i1 (2 : Int32))) (hv13 : v13 = (f1 i1 (3 : Int32))) (hv15 : v15 = (f1 i1 (4 : Int32))) (hv17 : v17 = (f1 i1 (5 : Int32))) (c102 : ¬ u1 = (0 : Int32)) : ¬ v5 < (0 : Int32) ∧ v5 < (11 : Int32) := by
  clear hv17 hv15 hv13 hv11 hv9 hv7
  have ca_0 := c_mask i0 (1 : Int32) 1 (by decide) (by decide)
  have ca_1 := c_iadd ((((i0.toUInt32 >>> ((1 : Int32) &&& 31).toUInt32).toInt32) &&& (3 : Int32)) % (3 : Int32)) (1 : Int32)
  have ca_2 := c_irem (((i0.toUInt32 >>> ((1 : Int32) &&& 31).toUInt32).toInt32) &&& (3 : Int32)) (3 : Int32) 3 rfl
  have ca_3 := c_mask ((i0.toUInt32 >>> ((1 : Int32) &&& 31).toUInt32).toInt32) (3 : Int32) 2 (by decide) (by decide)
  have ca_4 := c_iushr i0 1 1 (by decide) (by decide)
  have ca_5 := c_mask ((i0.toUInt32 >>> ((3 : Int32) &&& 31).toUInt32).toInt32) (3 : Int32) 2 (by decide) (by decide)
  have ca_6 := c_iushr i0 3 3 (by decide) (by decide)
  have ca_7 := c_mask ((i0.toUInt32 >>> ((5 : Int32) &&& 31).toUInt32).toInt32) (1 : Int32) 1 (by decide) (by decide)
  have ca_8 := c_iushr i0 5 5 (by decide) (by decide)
  have bl_0 := (i0).le_toInt; have bu_0 := (i0).toInt_lt
  have bl_1 := (u1).le_toInt; have bu_1 := (u1).toInt_lt
  have bl_2 := (v3).le_toInt; have bu_2 := (v3).toInt_lt
  have bl_3 := (v4).le_toInt; have bu_3 := (v4).toInt_lt
  have bl_4 := (v5).le_toInt; have bu_4 := (v5).toInt_lt
  have bl_5 := (((((i0.toUInt32 >>> ((1 : Int32) &&& 31).toUInt32).toInt32) &&& (3 : Int32)) % (3 : Int32)) + (1 : Int32)).le_toInt; have bu_5 := (((((i0.toUInt32 >>> ((1 : Int32) &&& 31).toUInt32).toInt32) &&& (3 : Int32)) % (3 : Int32)) + (1 : Int32)).toInt_lt
  try simp only [own_eqite, own_iteeq] at *
  try simp only [ne_eq, and_true, true_and, or_true, true_or, and_false, false_and, or_false, false_or, not_true_eq_false, not_false_eq_true, Int32.lt_iff_toInt_lt, Int64.lt_iff_toInt_lt, ← Int32.toInt_inj, ← Int64.toInt_inj, Int32.reduceToInt, Int64.reduceToInt] at *
  omega
set_option maxRecDepth 65536 in
set_option maxHeartbeats 40000000 in
theorem own_pre1 (i0 : Int32) (i1 : Int32) (i2 : Int32) (i3 : Int32) (u1 : Int32) (v3 : Int32) (v4 : Int32) (v5 : Int32) (v7 : Int32) (v9 : Int32) (v11 : Int32) (v13 : Int32) (v15 : Int32) (v17 : Int32) (hu1 : u1 = (if (i0 &&& (1 : Int32)) = (0 : Int32) then (0 : Int32) else (1 : Int32))) (hv3 : v3 = (((((i0.toUInt32 >>> ((1 : Int32) &&& 31).toUInt32).toInt32) &&& (3 : Int32)) % (3 : Int32)) + (1 : Int32))) (hv4 : v4 = (((i0.toUInt32 >>> ((3 : Int32) &&& 31).toUInt32).toInt32) &&& (3 : Int32))) (hv5 : v5 = (((i0.toUInt32 >>> ((5 : Int32) &&& 31).toUInt32).toInt32) &&& (1 : Int32))) (hv7 : v7 = (f1 i1 (0 : Int32))) (hv9 : v9 = (f1 i1 (1 : Int32))) (hv11 : v11 = (f1 i1 (2 : Int32))) (hv13 : v13 = (f1 i1 (3 : Int32))) (hv15 : v15 = (f1 i1 (4 : Int32))) (hv17 : v17 = (f1 i1 (5 : Int32))) (c102 : ¬ u1 = (0 : Int32)) : (v5).toNatClampNeg < [(Value.int (nar .byte (i2.toInt8.toInt32))), (Value.int (0 : Int32)), (Value.int (0 : Int32)), (Value.int (0 : Int32)), (Value.int (0 : Int32)), (Value.int (0 : Int32)), (Value.int (0 : Int32)), (Value.int (0 : Int32)), (Value.int (0 : Int32)), (Value.int (0 : Int32)), (Value.int (0 : Int32))].length := by
  have hb : ¬ v5 < (0 : Int32) ∧ v5 < (11 : Int32) := by
    clear hv17 hv15 hv13 hv11 hv9 hv7
    have ca_0 := c_mask i0 (1 : Int32) 1 (by decide) (by decide)
    have ca_1 := c_iadd ((((i0.toUInt32 >>> ((1 : Int32) &&& 31).toUInt32).toInt32) &&& (3 : Int32)) % (3 : Int32)) (1 : Int32)
    have ca_2 := c_irem (((i0.toUInt32 >>> ((1 : Int32) &&& 31).toUInt32).toInt32) &&& (3 : Int32)) (3 : Int32) 3 rfl
    have ca_3 := c_mask ((i0.toUInt32 >>> ((1 : Int32) &&& 31).toUInt32).toInt32) (3 : Int32) 2 (by decide) (by decide)
    have ca_4 := c_iushr i0 1 1 (by decide) (by decide)
    have ca_5 := c_mask ((i0.toUInt32 >>> ((3 : Int32) &&& 31).toUInt32).toInt32) (3 : Int32) 2 (by decide) (by decide)
    have ca_6 := c_iushr i0 3 3 (by decide) (by decide)
    have ca_7 := c_mask ((i0.toUInt32 >>> ((5 : Int32) &&& 31).toUInt32).toInt32) (1 : Int32) 1 (by decide) (by decide)
    have ca_8 := c_iushr i0 5 5 (by decide) (by decide)
    have bl_0 := (i0).le_toInt; have bu_0 := (i0).toInt_lt
    have bl_1 := (u1).le_toInt; have bu_1 := (u1).toInt_lt
    have bl_2 := (v3).le_toInt; have bu_2 := (v3).toInt_lt
    have bl_3 := (v4).le_toInt; have bu_3 := (v4).toInt_lt
    have bl_4 := (v5).le_toInt; have bu_4 := (v5).toInt_lt
    have bl_5 := (((((i0.toUInt32 >>> ((1 : Int32) &&& 31).toUInt32).toInt32) &&& (3 : Int32)) % (3 : Int32)) + (1 : Int32)).le_toInt; have bu_5 := (((((i0.toUInt32 >>> ((1 : Int32) &&& 31).toUInt32).toInt32) &&& (3 : Int32)) % (3 : Int32)) + (1 : Int32)).toInt_lt
    try simp only [own_eqite, own_iteeq] at *
    try simp only [ne_eq, and_true, true_and, or_true, true_or, and_false, false_and, or_false, false_or, not_true_eq_false, not_false_eq_true, Int32.lt_iff_toInt_lt, Int64.lt_iff_toInt_lt, ← Int32.toInt_inj, ← Int64.toInt_inj, Int32.reduceToInt, Int64.reduceToInt] at *
    omega
  have hX : (v5).toNatClampNeg < 11 := by
    simp only [Int32.lt_iff_toInt_lt, Int32.reduceToInt] at hb; simp only [Int32.toNatClampNeg]; omega
  simpa [] using hX
set_option maxRecDepth 65536 in
set_option maxHeartbeats 40000000 in
theorem own_pre2 (i0 : Int32) (i1 : Int32) (i2 : Int32) (i3 : Int32) (u1 : Int32) (v3 : Int32) (v4 : Int32) (v5 : Int32) (v7 : Int32) (v9 : Int32) (v11 : Int32) (v13 : Int32) (v15 : Int32) (v17 : Int32) (u20 : Int32) (w22 : List Value) (hu1 : u1 = (if (i0 &&& (1 : Int32)) = (0 : Int32) then (0 : Int32) else (1 : Int32))) (hv3 : v3 = (((((i0.toUInt32 >>> ((1 : Int32) &&& 31).toUInt32).toInt32) &&& (3 : Int32)) % (3 : Int32)) + (1 : Int32))) (hv4 : v4 = (((i0.toUInt32 >>> ((3 : Int32) &&& 31).toUInt32).toInt32) &&& (3 : Int32))) (hv5 : v5 = (((i0.toUInt32 >>> ((5 : Int32) &&& 31).toUInt32).toInt32) &&& (1 : Int32))) (hv7 : v7 = (f1 i1 (0 : Int32))) (hv9 : v9 = (f1 i1 (1 : Int32))) (hv11 : v11 = (f1 i1 (2 : Int32))) (hv13 : v13 = (f1 i1 (3 : Int32))) (hv15 : v15 = (f1 i1 (4 : Int32))) (hv17 : v17 = (f1 i1 (5 : Int32))) (hu20 : u20 = (if u1 = (0 : Int32) then v5 else (v5 + (1 : Int32)))) (hw22 : w22 = (if u1 = (0 : Int32) then [(.int (nar .byte (i2.toInt8.toInt32))), (.int (0 : Int32)), (.int (0 : Int32)), (.int (0 : Int32)), (.int (0 : Int32)), (.int (0 : Int32)), (.int (0 : Int32)), (.int (0 : Int32)), (.int (0 : Int32)), (.int (0 : Int32)), (.int (0 : Int32))] else ([(.int (nar .byte (i2.toInt8.toInt32))), (.int (0 : Int32)), (.int (0 : Int32)), (.int (0 : Int32)), (.int (0 : Int32)), (.int (0 : Int32)), (.int (0 : Int32)), (.int (0 : Int32)), (.int (0 : Int32)), (.int (0 : Int32)), (.int (0 : Int32))].set (v5).toNatClampNeg (.int (nar .byte (45 : Int32)))))) : ¬ u20 < (0 : Int32) ∧ u20 < (11 : Int32) := by
  clear hw22 hv17 hv15 hv13 hv11 hv9 hv7
  have ca_0 := c_mask i0 (1 : Int32) 1 (by decide) (by decide)
  have ca_1 := c_iadd ((((i0.toUInt32 >>> ((1 : Int32) &&& 31).toUInt32).toInt32) &&& (3 : Int32)) % (3 : Int32)) (1 : Int32)
  have ca_2 := c_irem (((i0.toUInt32 >>> ((1 : Int32) &&& 31).toUInt32).toInt32) &&& (3 : Int32)) (3 : Int32) 3 rfl
  have ca_3 := c_mask ((i0.toUInt32 >>> ((1 : Int32) &&& 31).toUInt32).toInt32) (3 : Int32) 2 (by decide) (by decide)
  have ca_4 := c_iushr i0 1 1 (by decide) (by decide)
  have ca_5 := c_mask ((i0.toUInt32 >>> ((3 : Int32) &&& 31).toUInt32).toInt32) (3 : Int32) 2 (by decide) (by decide)
  have ca_6 := c_iushr i0 3 3 (by decide) (by decide)
  have ca_7 := c_mask ((i0.toUInt32 >>> ((5 : Int32) &&& 31).toUInt32).toInt32) (1 : Int32) 1 (by decide) (by decide)
  have ca_8 := c_iushr i0 5 5 (by decide) (by decide)
  have ca_9 := c_iadd v5 (1 : Int32)
  have bl_0 := (i0).le_toInt; have bu_0 := (i0).toInt_lt
  have bl_1 := (u1).le_toInt; have bu_1 := (u1).toInt_lt
  have bl_2 := (v3).le_toInt; have bu_2 := (v3).toInt_lt
  have bl_3 := (v4).le_toInt; have bu_3 := (v4).toInt_lt
  have bl_4 := (v5).le_toInt; have bu_4 := (v5).toInt_lt
  have bl_5 := (u20).le_toInt; have bu_5 := (u20).toInt_lt
  have bl_6 := (((((i0.toUInt32 >>> ((1 : Int32) &&& 31).toUInt32).toInt32) &&& (3 : Int32)) % (3 : Int32)) + (1 : Int32)).le_toInt; have bu_6 := (((((i0.toUInt32 >>> ((1 : Int32) &&& 31).toUInt32).toInt32) &&& (3 : Int32)) % (3 : Int32)) + (1 : Int32)).toInt_lt
  have bl_7 := (v5 + (1 : Int32)).le_toInt; have bu_7 := (v5 + (1 : Int32)).toInt_lt
  try simp only [own_eqite, own_iteeq] at *
  try simp only [ne_eq, and_true, true_and, or_true, true_or, and_false, false_and, or_false, false_or, not_true_eq_false, not_false_eq_true, Int32.lt_iff_toInt_lt, Int64.lt_iff_toInt_lt, ← Int32.toInt_inj, ← Int64.toInt_inj, Int32.reduceToInt, Int64.reduceToInt] at *
  omega
set_option maxRecDepth 65536 in
set_option maxHeartbeats 40000000 in
theorem own_pre3 (i0 : Int32) (i1 : Int32) (i2 : Int32) (i3 : Int32) (u1 : Int32) (v3 : Int32) (v4 : Int32) (v5 : Int32) (v7 : Int32) (v9 : Int32) (v11 : Int32) (v13 : Int32) (v15 : Int32) (v17 : Int32) (u20 : Int32) (w22 : List Value) (hu1 : u1 = (if (i0 &&& (1 : Int32)) = (0 : Int32) then (0 : Int32) else (1 : Int32))) (hv3 : v3 = (((((i0.toUInt32 >>> ((1 : Int32) &&& 31).toUInt32).toInt32) &&& (3 : Int32)) % (3 : Int32)) + (1 : Int32))) (hv4 : v4 = (((i0.toUInt32 >>> ((3 : Int32) &&& 31).toUInt32).toInt32) &&& (3 : Int32))) (hv5 : v5 = (((i0.toUInt32 >>> ((5 : Int32) &&& 31).toUInt32).toInt32) &&& (1 : Int32))) (hv7 : v7 = (f1 i1 (0 : Int32))) (hv9 : v9 = (f1 i1 (1 : Int32))) (hv11 : v11 = (f1 i1 (2 : Int32))) (hv13 : v13 = (f1 i1 (3 : Int32))) (hv15 : v15 = (f1 i1 (4 : Int32))) (hv17 : v17 = (f1 i1 (5 : Int32))) (hu20 : u20 = (if u1 = (0 : Int32) then v5 else (v5 + (1 : Int32)))) (hw22 : w22 = (if u1 = (0 : Int32) then [(.int (nar .byte (i2.toInt8.toInt32))), (.int (0 : Int32)), (.int (0 : Int32)), (.int (0 : Int32)), (.int (0 : Int32)), (.int (0 : Int32)), (.int (0 : Int32)), (.int (0 : Int32)), (.int (0 : Int32)), (.int (0 : Int32)), (.int (0 : Int32))] else ([(.int (nar .byte (i2.toInt8.toInt32))), (.int (0 : Int32)), (.int (0 : Int32)), (.int (0 : Int32)), (.int (0 : Int32)), (.int (0 : Int32)), (.int (0 : Int32)), (.int (0 : Int32)), (.int (0 : Int32)), (.int (0 : Int32)), (.int (0 : Int32))].set (v5).toNatClampNeg (.int (nar .byte (45 : Int32)))))) : (u20).toNatClampNeg < w22.length := by
  have lw22 : w22.length = 11 := by rw [hw22]; split <;> simp []
  have hb : ¬ u20 < (0 : Int32) ∧ u20 < (11 : Int32) := by
    clear lw22
    clear hw22 hv17 hv15 hv13 hv11 hv9 hv7
    have ca_0 := c_mask i0 (1 : Int32) 1 (by decide) (by decide)
    have ca_1 := c_iadd ((((i0.toUInt32 >>> ((1 : Int32) &&& 31).toUInt32).toInt32) &&& (3 : Int32)) % (3 : Int32)) (1 : Int32)
    have ca_2 := c_irem (((i0.toUInt32 >>> ((1 : Int32) &&& 31).toUInt32).toInt32) &&& (3 : Int32)) (3 : Int32) 3 rfl
    have ca_3 := c_mask ((i0.toUInt32 >>> ((1 : Int32) &&& 31).toUInt32).toInt32) (3 : Int32) 2 (by decide) (by decide)
    have ca_4 := c_iushr i0 1 1 (by decide) (by decide)
    have ca_5 := c_mask ((i0.toUInt32 >>> ((3 : Int32) &&& 31).toUInt32).toInt32) (3 : Int32) 2 (by decide) (by decide)
    have ca_6 := c_iushr i0 3 3 (by decide) (by decide)
    have ca_7 := c_mask ((i0.toUInt32 >>> ((5 : Int32) &&& 31).toUInt32).toInt32) (1 : Int32) 1 (by decide) (by decide)
    have ca_8 := c_iushr i0 5 5 (by decide) (by decide)
    have ca_9 := c_iadd v5 (1 : Int32)
    have bl_0 := (i0).le_toInt; have bu_0 := (i0).toInt_lt
    have bl_1 := (u1).le_toInt; have bu_1 := (u1).toInt_lt
    have bl_2 := (v3).le_toInt; have bu_2 := (v3).toInt_lt
    have bl_3 := (v4).le_toInt; have bu_3 := (v4).toInt_lt
    have bl_4 := (v5).le_toInt; have bu_4 := (v5).toInt_lt
    have bl_5 := (u20).le_toInt; have bu_5 := (u20).toInt_lt
    have bl_6 := (((((i0.toUInt32 >>> ((1 : Int32) &&& 31).toUInt32).toInt32) &&& (3 : Int32)) % (3 : Int32)) + (1 : Int32)).le_toInt; have bu_6 := (((((i0.toUInt32 >>> ((1 : Int32) &&& 31).toUInt32).toInt32) &&& (3 : Int32)) % (3 : Int32)) + (1 : Int32)).toInt_lt
    have bl_7 := (v5 + (1 : Int32)).le_toInt; have bu_7 := (v5 + (1 : Int32)).toInt_lt
    try simp only [own_eqite, own_iteeq] at *
    try simp only [ne_eq, and_true, true_and, or_true, true_or, and_false, false_and, or_false, false_or, not_true_eq_false, not_false_eq_true, Int32.lt_iff_toInt_lt, Int64.lt_iff_toInt_lt, ← Int32.toInt_inj, ← Int64.toInt_inj, Int32.reduceToInt, Int64.reduceToInt] at *
    omega
  have hX : (u20).toNatClampNeg < 11 := by
    simp only [Int32.lt_iff_toInt_lt, Int32.reduceToInt] at hb; simp only [Int32.toNatClampNeg]; omega
  simpa [lw22] using hX
set_option maxRecDepth 65536 in
set_option maxHeartbeats 40000000 in
theorem own_pre4 (i0 : Int32) (i1 : Int32) (i2 : Int32) (i3 : Int32) (u1 : Int32) (v3 : Int32) (v4 : Int32) (v5 : Int32) (v7 : Int32) (v9 : Int32) (v11 : Int32) (v13 : Int32) (v15 : Int32) (v17 : Int32) (u20 : Int32) (w22 : List Value) (hu1 : u1 = (if (i0 &&& (1 : Int32)) = (0 : Int32) then (0 : Int32) else (1 : Int32))) (hv3 : v3 = (((((i0.toUInt32 >>> ((1 : Int32) &&& 31).toUInt32).toInt32) &&& (3 : Int32)) % (3 : Int32)) + (1 : Int32))) (hv4 : v4 = (((i0.toUInt32 >>> ((3 : Int32) &&& 31).toUInt32).toInt32) &&& (3 : Int32))) (hv5 : v5 = (((i0.toUInt32 >>> ((5 : Int32) &&& 31).toUInt32).toInt32) &&& (1 : Int32))) (hv7 : v7 = (f1 i1 (0 : Int32))) (hv9 : v9 = (f1 i1 (1 : Int32))) (hv11 : v11 = (f1 i1 (2 : Int32))) (hv13 : v13 = (f1 i1 (3 : Int32))) (hv15 : v15 = (f1 i1 (4 : Int32))) (hv17 : v17 = (f1 i1 (5 : Int32))) (hu20 : u20 = (if u1 = (0 : Int32) then v5 else (v5 + (1 : Int32)))) (hw22 : w22 = (if u1 = (0 : Int32) then [(.int (nar .byte (i2.toInt8.toInt32))), (.int (0 : Int32)), (.int (0 : Int32)), (.int (0 : Int32)), (.int (0 : Int32)), (.int (0 : Int32)), (.int (0 : Int32)), (.int (0 : Int32)), (.int (0 : Int32)), (.int (0 : Int32)), (.int (0 : Int32))] else ([(.int (nar .byte (i2.toInt8.toInt32))), (.int (0 : Int32)), (.int (0 : Int32)), (.int (0 : Int32)), (.int (0 : Int32)), (.int (0 : Int32)), (.int (0 : Int32)), (.int (0 : Int32)), (.int (0 : Int32)), (.int (0 : Int32)), (.int (0 : Int32))].set (v5).toNatClampNeg (.int (nar .byte (45 : Int32)))))) (c132 : ¬ v3 < (2 : Int32)) : ¬ (u20 + (1 : Int32)) < (0 : Int32) ∧ (u20 + (1 : Int32)) < (11 : Int32) := by
  clear hw22 hv17 hv15 hv13 hv11 hv9 hv7
  have ca_0 := c_mask i0 (1 : Int32) 1 (by decide) (by decide)
  have ca_1 := c_iadd ((((i0.toUInt32 >>> ((1 : Int32) &&& 31).toUInt32).toInt32) &&& (3 : Int32)) % (3 : Int32)) (1 : Int32)
  have ca_2 := c_irem (((i0.toUInt32 >>> ((1 : Int32) &&& 31).toUInt32).toInt32) &&& (3 : Int32)) (3 : Int32) 3 rfl
  have ca_3 := c_mask ((i0.toUInt32 >>> ((1 : Int32) &&& 31).toUInt32).toInt32) (3 : Int32) 2 (by decide) (by decide)
  have ca_4 := c_iushr i0 1 1 (by decide) (by decide)
  have ca_5 := c_mask ((i0.toUInt32 >>> ((3 : Int32) &&& 31).toUInt32).toInt32) (3 : Int32) 2 (by decide) (by decide)
  have ca_6 := c_iushr i0 3 3 (by decide) (by decide)
  have ca_7 := c_mask ((i0.toUInt32 >>> ((5 : Int32) &&& 31).toUInt32).toInt32) (1 : Int32) 1 (by decide) (by decide)
  have ca_8 := c_iushr i0 5 5 (by decide) (by decide)
  have ca_9 := c_iadd v5 (1 : Int32)
  have ca_10 := c_iadd u20 (1 : Int32)
  have bl_0 := (i0).le_toInt; have bu_0 := (i0).toInt_lt
  have bl_1 := (u1).le_toInt; have bu_1 := (u1).toInt_lt
  have bl_2 := (v3).le_toInt; have bu_2 := (v3).toInt_lt
  have bl_3 := (v4).le_toInt; have bu_3 := (v4).toInt_lt
  have bl_4 := (v5).le_toInt; have bu_4 := (v5).toInt_lt
  have bl_5 := (u20).le_toInt; have bu_5 := (u20).toInt_lt
  have bl_6 := (((((i0.toUInt32 >>> ((1 : Int32) &&& 31).toUInt32).toInt32) &&& (3 : Int32)) % (3 : Int32)) + (1 : Int32)).le_toInt; have bu_6 := (((((i0.toUInt32 >>> ((1 : Int32) &&& 31).toUInt32).toInt32) &&& (3 : Int32)) % (3 : Int32)) + (1 : Int32)).toInt_lt
  have bl_7 := (v5 + (1 : Int32)).le_toInt; have bu_7 := (v5 + (1 : Int32)).toInt_lt
  have bl_8 := (u20 + (1 : Int32)).le_toInt; have bu_8 := (u20 + (1 : Int32)).toInt_lt
  try simp only [own_eqite, own_iteeq] at *
  try simp only [ne_eq, and_true, true_and, or_true, true_or, and_false, false_and, or_false, false_or, not_true_eq_false, not_false_eq_true, Int32.lt_iff_toInt_lt, Int64.lt_iff_toInt_lt, ← Int32.toInt_inj, ← Int64.toInt_inj, Int32.reduceToInt, Int64.reduceToInt] at *
  omega
set_option maxRecDepth 65536 in
set_option maxHeartbeats 40000000 in
theorem own_pre5 (i0 : Int32) (i1 : Int32) (i2 : Int32) (i3 : Int32) (u1 : Int32) (v3 : Int32) (v4 : Int32) (v5 : Int32) (v7 : Int32) (v9 : Int32) (v11 : Int32) (v13 : Int32) (v15 : Int32) (v17 : Int32) (u20 : Int32) (w22 : List Value) (hu1 : u1 = (if (i0 &&& (1 : Int32)) = (0 : Int32) then (0 : Int32) else (1 : Int32))) (hv3 : v3 = (((((i0.toUInt32 >>> ((1 : Int32) &&& 31).toUInt32).toInt32) &&& (3 : Int32)) % (3 : Int32)) + (1 : Int32))) (hv4 : v4 = (((i0.toUInt32 >>> ((3 : Int32) &&& 31).toUInt32).toInt32) &&& (3 : Int32))) (hv5 : v5 = (((i0.toUInt32 >>> ((5 : Int32) &&& 31).toUInt32).toInt32) &&& (1 : Int32))) (hv7 : v7 = (f1 i1 (0 : Int32))) (hv9 : v9 = (f1 i1 (1 : Int32))) (hv11 : v11 = (f1 i1 (2 : Int32))) (hv13 : v13 = (f1 i1 (3 : Int32))) (hv15 : v15 = (f1 i1 (4 : Int32))) (hv17 : v17 = (f1 i1 (5 : Int32))) (hu20 : u20 = (if u1 = (0 : Int32) then v5 else (v5 + (1 : Int32)))) (hw22 : w22 = (if u1 = (0 : Int32) then [(.int (nar .byte (i2.toInt8.toInt32))), (.int (0 : Int32)), (.int (0 : Int32)), (.int (0 : Int32)), (.int (0 : Int32)), (.int (0 : Int32)), (.int (0 : Int32)), (.int (0 : Int32)), (.int (0 : Int32)), (.int (0 : Int32)), (.int (0 : Int32))] else ([(.int (nar .byte (i2.toInt8.toInt32))), (.int (0 : Int32)), (.int (0 : Int32)), (.int (0 : Int32)), (.int (0 : Int32)), (.int (0 : Int32)), (.int (0 : Int32)), (.int (0 : Int32)), (.int (0 : Int32)), (.int (0 : Int32)), (.int (0 : Int32))].set (v5).toNatClampNeg (.int (nar .byte (45 : Int32)))))) (c132 : ¬ v3 < (2 : Int32)) : ((u20 + (1 : Int32))).toNatClampNeg < (w22.set (u20).toNatClampNeg (Value.int (nar .byte (((48 : Int32) + v7).toInt8.toInt32)))).length := by
  have lw22 : w22.length = 11 := by rw [hw22]; split <;> simp []
  have hb : ¬ (u20 + (1 : Int32)) < (0 : Int32) ∧ (u20 + (1 : Int32)) < (11 : Int32) := by
    clear lw22
    clear hw22 hv17 hv15 hv13 hv11 hv9 hv7
    have ca_0 := c_mask i0 (1 : Int32) 1 (by decide) (by decide)
    have ca_1 := c_iadd ((((i0.toUInt32 >>> ((1 : Int32) &&& 31).toUInt32).toInt32) &&& (3 : Int32)) % (3 : Int32)) (1 : Int32)
    have ca_2 := c_irem (((i0.toUInt32 >>> ((1 : Int32) &&& 31).toUInt32).toInt32) &&& (3 : Int32)) (3 : Int32) 3 rfl
    have ca_3 := c_mask ((i0.toUInt32 >>> ((1 : Int32) &&& 31).toUInt32).toInt32) (3 : Int32) 2 (by decide) (by decide)
    have ca_4 := c_iushr i0 1 1 (by decide) (by decide)
    have ca_5 := c_mask ((i0.toUInt32 >>> ((3 : Int32) &&& 31).toUInt32).toInt32) (3 : Int32) 2 (by decide) (by decide)
    have ca_6 := c_iushr i0 3 3 (by decide) (by decide)
    have ca_7 := c_mask ((i0.toUInt32 >>> ((5 : Int32) &&& 31).toUInt32).toInt32) (1 : Int32) 1 (by decide) (by decide)
    have ca_8 := c_iushr i0 5 5 (by decide) (by decide)
    have ca_9 := c_iadd v5 (1 : Int32)
    have ca_10 := c_iadd u20 (1 : Int32)
    have bl_0 := (i0).le_toInt; have bu_0 := (i0).toInt_lt
    have bl_1 := (u1).le_toInt; have bu_1 := (u1).toInt_lt
    have bl_2 := (v3).le_toInt; have bu_2 := (v3).toInt_lt
    have bl_3 := (v4).le_toInt; have bu_3 := (v4).toInt_lt
    have bl_4 := (v5).le_toInt; have bu_4 := (v5).toInt_lt
    have bl_5 := (u20).le_toInt; have bu_5 := (u20).toInt_lt
    have bl_6 := (((((i0.toUInt32 >>> ((1 : Int32) &&& 31).toUInt32).toInt32) &&& (3 : Int32)) % (3 : Int32)) + (1 : Int32)).le_toInt; have bu_6 := (((((i0.toUInt32 >>> ((1 : Int32) &&& 31).toUInt32).toInt32) &&& (3 : Int32)) % (3 : Int32)) + (1 : Int32)).toInt_lt
    have bl_7 := (v5 + (1 : Int32)).le_toInt; have bu_7 := (v5 + (1 : Int32)).toInt_lt
    have bl_8 := (u20 + (1 : Int32)).le_toInt; have bu_8 := (u20 + (1 : Int32)).toInt_lt
    try simp only [own_eqite, own_iteeq] at *
    try simp only [ne_eq, and_true, true_and, or_true, true_or, and_false, false_and, or_false, false_or, not_true_eq_false, not_false_eq_true, Int32.lt_iff_toInt_lt, Int64.lt_iff_toInt_lt, ← Int32.toInt_inj, ← Int64.toInt_inj, Int32.reduceToInt, Int64.reduceToInt] at *
    omega
  have hX : ((u20 + (1 : Int32))).toNatClampNeg < 11 := by
    simp only [Int32.lt_iff_toInt_lt, Int32.reduceToInt] at hb; simp only [Int32.toNatClampNeg]; omega
  simpa [lw22] using hX
set_option maxRecDepth 65536 in
set_option maxHeartbeats 40000000 in
theorem own_pre6 (i0 : Int32) (i1 : Int32) (i2 : Int32) (i3 : Int32) (u1 : Int32) (v3 : Int32) (v4 : Int32) (v5 : Int32) (v7 : Int32) (v9 : Int32) (v11 : Int32) (v13 : Int32) (v15 : Int32) (v17 : Int32) (u20 : Int32) (w22 : List Value) (u24 : Int32) (w26 : List Value) (hu1 : u1 = (if (i0 &&& (1 : Int32)) = (0 : Int32) then (0 : Int32) else (1 : Int32))) (hv3 : v3 = (((((i0.toUInt32 >>> ((1 : Int32) &&& 31).toUInt32).toInt32) &&& (3 : Int32)) % (3 : Int32)) + (1 : Int32))) (hv4 : v4 = (((i0.toUInt32 >>> ((3 : Int32) &&& 31).toUInt32).toInt32) &&& (3 : Int32))) (hv5 : v5 = (((i0.toUInt32 >>> ((5 : Int32) &&& 31).toUInt32).toInt32) &&& (1 : Int32))) (hv7 : v7 = (f1 i1 (0 : Int32))) (hv9 : v9 = (f1 i1 (1 : Int32))) (hv11 : v11 = (f1 i1 (2 : Int32))) (hv13 : v13 = (f1 i1 (3 : Int32))) (hv15 : v15 = (f1 i1 (4 : Int32))) (hv17 : v17 = (f1 i1 (5 : Int32))) (hu20 : u20 = (if u1 = (0 : Int32) then v5 else (v5 + (1 : Int32)))) (hw22 : w22 = (if u1 = (0 : Int32) then [(.int (nar .byte (i2.toInt8.toInt32))), (.int (0 : Int32)), (.int (0 : Int32)), (.int (0 : Int32)), (.int (0 : Int32)), (.int (0 : Int32)), (.int (0 : Int32)), (.int (0 : Int32)), (.int (0 : Int32)), (.int (0 : Int32)), (.int (0 : Int32))] else ([(.int (nar .byte (i2.toInt8.toInt32))), (.int (0 : Int32)), (.int (0 : Int32)), (.int (0 : Int32)), (.int (0 : Int32)), (.int (0 : Int32)), (.int (0 : Int32)), (.int (0 : Int32)), (.int (0 : Int32)), (.int (0 : Int32)), (.int (0 : Int32))].set (v5).toNatClampNeg (.int (nar .byte (45 : Int32)))))) (hu24 : u24 = (if v3 < (2 : Int32) then (u20 + (1 : Int32)) else ((u20 + (1 : Int32)) + (1 : Int32)))) (hw26 : w26 = (if v3 < (2 : Int32) then (w22.set (u20).toNatClampNeg (.int (nar .byte (((48 : Int32) + v7).toInt8.toInt32)))) else ((w22.set (u20).toNatClampNeg (.int (nar .byte (((48 : Int32) + v7).toInt8.toInt32)))).set ((u20 + (1 : Int32))).toNatClampNeg (.int (nar .byte (((48 : Int32) + v9).toInt8.toInt32)))))) (c152 : ¬ v3 < (3 : Int32)) : ¬ u24 < (0 : Int32) ∧ u24 < (11 : Int32) := by
  clear hw26 hw22 hv17 hv15 hv13 hv11 hv9 hv7
  have ca_0 := c_mask i0 (1 : Int32) 1 (by decide) (by decide)
  have ca_1 := c_iadd ((((i0.toUInt32 >>> ((1 : Int32) &&& 31).toUInt32).toInt32) &&& (3 : Int32)) % (3 : Int32)) (1 : Int32)
  have ca_2 := c_irem (((i0.toUInt32 >>> ((1 : Int32) &&& 31).toUInt32).toInt32) &&& (3 : Int32)) (3 : Int32) 3 rfl
  have ca_3 := c_mask ((i0.toUInt32 >>> ((1 : Int32) &&& 31).toUInt32).toInt32) (3 : Int32) 2 (by decide) (by decide)
  have ca_4 := c_iushr i0 1 1 (by decide) (by decide)
  have ca_5 := c_mask ((i0.toUInt32 >>> ((3 : Int32) &&& 31).toUInt32).toInt32) (3 : Int32) 2 (by decide) (by decide)
  have ca_6 := c_iushr i0 3 3 (by decide) (by decide)
  have ca_7 := c_mask ((i0.toUInt32 >>> ((5 : Int32) &&& 31).toUInt32).toInt32) (1 : Int32) 1 (by decide) (by decide)
  have ca_8 := c_iushr i0 5 5 (by decide) (by decide)
  have ca_9 := c_iadd v5 (1 : Int32)
  have ca_10 := c_iadd u20 (1 : Int32)
  have ca_11 := c_iadd (u20 + (1 : Int32)) (1 : Int32)
  have bl_0 := (i0).le_toInt; have bu_0 := (i0).toInt_lt
  have bl_1 := (u1).le_toInt; have bu_1 := (u1).toInt_lt
  have bl_2 := (v3).le_toInt; have bu_2 := (v3).toInt_lt
  have bl_3 := (v4).le_toInt; have bu_3 := (v4).toInt_lt
  have bl_4 := (v5).le_toInt; have bu_4 := (v5).toInt_lt
  have bl_5 := (u20).le_toInt; have bu_5 := (u20).toInt_lt
  have bl_6 := (u24).le_toInt; have bu_6 := (u24).toInt_lt
  have bl_7 := (((((i0.toUInt32 >>> ((1 : Int32) &&& 31).toUInt32).toInt32) &&& (3 : Int32)) % (3 : Int32)) + (1 : Int32)).le_toInt; have bu_7 := (((((i0.toUInt32 >>> ((1 : Int32) &&& 31).toUInt32).toInt32) &&& (3 : Int32)) % (3 : Int32)) + (1 : Int32)).toInt_lt
  have bl_8 := (v5 + (1 : Int32)).le_toInt; have bu_8 := (v5 + (1 : Int32)).toInt_lt
  have bl_9 := (u20 + (1 : Int32)).le_toInt; have bu_9 := (u20 + (1 : Int32)).toInt_lt
  have bl_10 := ((u20 + (1 : Int32)) + (1 : Int32)).le_toInt; have bu_10 := ((u20 + (1 : Int32)) + (1 : Int32)).toInt_lt
  try simp only [own_eqite, own_iteeq] at *
  try simp only [ne_eq, and_true, true_and, or_true, true_or, and_false, false_and, or_false, false_or, not_true_eq_false, not_false_eq_true, Int32.lt_iff_toInt_lt, Int64.lt_iff_toInt_lt, ← Int32.toInt_inj, ← Int64.toInt_inj, Int32.reduceToInt, Int64.reduceToInt] at *
  omega
set_option maxRecDepth 65536 in
set_option maxHeartbeats 40000000 in
theorem own_pre7 (i0 : Int32) (i1 : Int32) (i2 : Int32) (i3 : Int32) (u1 : Int32) (v3 : Int32) (v4 : Int32) (v5 : Int32) (v7 : Int32) (v9 : Int32) (v11 : Int32) (v13 : Int32) (v15 : Int32) (v17 : Int32) (u20 : Int32) (w22 : List Value) (u24 : Int32) (w26 : List Value) (hu1 : u1 = (if (i0 &&& (1 : Int32)) = (0 : Int32) then (0 : Int32) else (1 : Int32))) (hv3 : v3 = (((((i0.toUInt32 >>> ((1 : Int32) &&& 31).toUInt32).toInt32) &&& (3 : Int32)) % (3 : Int32)) + (1 : Int32))) (hv4 : v4 = (((i0.toUInt32 >>> ((3 : Int32) &&& 31).toUInt32).toInt32) &&& (3 : Int32))) (hv5 : v5 = (((i0.toUInt32 >>> ((5 : Int32) &&& 31).toUInt32).toInt32) &&& (1 : Int32))) (hv7 : v7 = (f1 i1 (0 : Int32))) (hv9 : v9 = (f1 i1 (1 : Int32))) (hv11 : v11 = (f1 i1 (2 : Int32))) (hv13 : v13 = (f1 i1 (3 : Int32))) (hv15 : v15 = (f1 i1 (4 : Int32))) (hv17 : v17 = (f1 i1 (5 : Int32))) (hu20 : u20 = (if u1 = (0 : Int32) then v5 else (v5 + (1 : Int32)))) (hw22 : w22 = (if u1 = (0 : Int32) then [(.int (nar .byte (i2.toInt8.toInt32))), (.int (0 : Int32)), (.int (0 : Int32)), (.int (0 : Int32)), (.int (0 : Int32)), (.int (0 : Int32)), (.int (0 : Int32)), (.int (0 : Int32)), (.int (0 : Int32)), (.int (0 : Int32)), (.int (0 : Int32))] else ([(.int (nar .byte (i2.toInt8.toInt32))), (.int (0 : Int32)), (.int (0 : Int32)), (.int (0 : Int32)), (.int (0 : Int32)), (.int (0 : Int32)), (.int (0 : Int32)), (.int (0 : Int32)), (.int (0 : Int32)), (.int (0 : Int32)), (.int (0 : Int32))].set (v5).toNatClampNeg (.int (nar .byte (45 : Int32)))))) (hu24 : u24 = (if v3 < (2 : Int32) then (u20 + (1 : Int32)) else ((u20 + (1 : Int32)) + (1 : Int32)))) (hw26 : w26 = (if v3 < (2 : Int32) then (w22.set (u20).toNatClampNeg (.int (nar .byte (((48 : Int32) + v7).toInt8.toInt32)))) else ((w22.set (u20).toNatClampNeg (.int (nar .byte (((48 : Int32) + v7).toInt8.toInt32)))).set ((u20 + (1 : Int32))).toNatClampNeg (.int (nar .byte (((48 : Int32) + v9).toInt8.toInt32)))))) (c152 : ¬ v3 < (3 : Int32)) : (u24).toNatClampNeg < w26.length := by
  have lw22 : w22.length = 11 := by rw [hw22]; split <;> simp []
  have lw26 : w26.length = 11 := by rw [hw26]; split <;> simp [lw22]
  have hb : ¬ u24 < (0 : Int32) ∧ u24 < (11 : Int32) := by
    clear lw22 lw26
    clear hw26 hw22 hv17 hv15 hv13 hv11 hv9 hv7
    have ca_0 := c_mask i0 (1 : Int32) 1 (by decide) (by decide)
    have ca_1 := c_iadd ((((i0.toUInt32 >>> ((1 : Int32) &&& 31).toUInt32).toInt32) &&& (3 : Int32)) % (3 : Int32)) (1 : Int32)
    have ca_2 := c_irem (((i0.toUInt32 >>> ((1 : Int32) &&& 31).toUInt32).toInt32) &&& (3 : Int32)) (3 : Int32) 3 rfl
    have ca_3 := c_mask ((i0.toUInt32 >>> ((1 : Int32) &&& 31).toUInt32).toInt32) (3 : Int32) 2 (by decide) (by decide)
    have ca_4 := c_iushr i0 1 1 (by decide) (by decide)
    have ca_5 := c_mask ((i0.toUInt32 >>> ((3 : Int32) &&& 31).toUInt32).toInt32) (3 : Int32) 2 (by decide) (by decide)
    have ca_6 := c_iushr i0 3 3 (by decide) (by decide)
    have ca_7 := c_mask ((i0.toUInt32 >>> ((5 : Int32) &&& 31).toUInt32).toInt32) (1 : Int32) 1 (by decide) (by decide)
    have ca_8 := c_iushr i0 5 5 (by decide) (by decide)
    have ca_9 := c_iadd v5 (1 : Int32)
    have ca_10 := c_iadd u20 (1 : Int32)
    have ca_11 := c_iadd (u20 + (1 : Int32)) (1 : Int32)
    have bl_0 := (i0).le_toInt; have bu_0 := (i0).toInt_lt
    have bl_1 := (u1).le_toInt; have bu_1 := (u1).toInt_lt
    have bl_2 := (v3).le_toInt; have bu_2 := (v3).toInt_lt
    have bl_3 := (v4).le_toInt; have bu_3 := (v4).toInt_lt
    have bl_4 := (v5).le_toInt; have bu_4 := (v5).toInt_lt
    have bl_5 := (u20).le_toInt; have bu_5 := (u20).toInt_lt
    have bl_6 := (u24).le_toInt; have bu_6 := (u24).toInt_lt
    have bl_7 := (((((i0.toUInt32 >>> ((1 : Int32) &&& 31).toUInt32).toInt32) &&& (3 : Int32)) % (3 : Int32)) + (1 : Int32)).le_toInt; have bu_7 := (((((i0.toUInt32 >>> ((1 : Int32) &&& 31).toUInt32).toInt32) &&& (3 : Int32)) % (3 : Int32)) + (1 : Int32)).toInt_lt
    have bl_8 := (v5 + (1 : Int32)).le_toInt; have bu_8 := (v5 + (1 : Int32)).toInt_lt
    have bl_9 := (u20 + (1 : Int32)).le_toInt; have bu_9 := (u20 + (1 : Int32)).toInt_lt
    have bl_10 := ((u20 + (1 : Int32)) + (1 : Int32)).le_toInt; have bu_10 := ((u20 + (1 : Int32)) + (1 : Int32)).toInt_lt
    try simp only [own_eqite, own_iteeq] at *
    try simp only [ne_eq, and_true, true_and, or_true, true_or, and_false, false_and, or_false, false_or, not_true_eq_false, not_false_eq_true, Int32.lt_iff_toInt_lt, Int64.lt_iff_toInt_lt, ← Int32.toInt_inj, ← Int64.toInt_inj, Int32.reduceToInt, Int64.reduceToInt] at *
    omega
  have hX : (u24).toNatClampNeg < 11 := by
    simp only [Int32.lt_iff_toInt_lt, Int32.reduceToInt] at hb; simp only [Int32.toNatClampNeg]; omega
  simpa [lw22, lw26] using hX
set_option maxRecDepth 65536 in
set_option maxHeartbeats 40000000 in
theorem own_pre8 (i0 : Int32) (i1 : Int32) (i2 : Int32) (i3 : Int32) (u1 : Int32) (v3 : Int32) (v4 : Int32) (v5 : Int32) (v7 : Int32) (v9 : Int32) (v11 : Int32) (v13 : Int32) (v15 : Int32) (v17 : Int32) (u20 : Int32) (w22 : List Value) (u24 : Int32) (w26 : List Value) (u27 : Int32) (w29 : List Value) (hu1 : u1 = (if (i0 &&& (1 : Int32)) = (0 : Int32) then (0 : Int32) else (1 : Int32))) (hv3 : v3 = (((((i0.toUInt32 >>> ((1 : Int32) &&& 31).toUInt32).toInt32) &&& (3 : Int32)) % (3 : Int32)) + (1 : Int32))) (hv4 : v4 = (((i0.toUInt32 >>> ((3 : Int32) &&& 31).toUInt32).toInt32) &&& (3 : Int32))) (hv5 : v5 = (((i0.toUInt32 >>> ((5 : Int32) &&& 31).toUInt32).toInt32) &&& (1 : Int32))) (hv7 : v7 = (f1 i1 (0 : Int32))) (hv9 : v9 = (f1 i1 (1 : Int32))) (hv11 : v11 = (f1 i1 (2 : Int32))) (hv13 : v13 = (f1 i1 (3 : Int32))) (hv15 : v15 = (f1 i1 (4 : Int32))) (hv17 : v17 = (f1 i1 (5 : Int32))) (hu20 : u20 = (if u1 = (0 : Int32) then v5 else (v5 + (1 : Int32)))) (hw22 : w22 = (if u1 = (0 : Int32) then [(.int (nar .byte (i2.toInt8.toInt32))), (.int (0 : Int32)), (.int (0 : Int32)), (.int (0 : Int32)), (.int (0 : Int32)), (.int (0 : Int32)), (.int (0 : Int32)), (.int (0 : Int32)), (.int (0 : Int32)), (.int (0 : Int32)), (.int (0 : Int32))] else ([(.int (nar .byte (i2.toInt8.toInt32))), (.int (0 : Int32)), (.int (0 : Int32)), (.int (0 : Int32)), (.int (0 : Int32)), (.int (0 : Int32)), (.int (0 : Int32)), (.int (0 : Int32)), (.int (0 : Int32)), (.int (0 : Int32)), (.int (0 : Int32))].set (v5).toNatClampNeg (.int (nar .byte (45 : Int32)))))) (hu24 : u24 = (if v3 < (2 : Int32) then (u20 + (1 : Int32)) else ((u20 + (1 : Int32)) + (1 : Int32)))) (hw26 : w26 = (if v3 < (2 : Int32) then (w22.set (u20).toNatClampNeg (.int (nar .byte (((48 : Int32) + v7).toInt8.toInt32)))) else ((w22.set (u20).toNatClampNeg (.int (nar .byte (((48 : Int32) + v7).toInt8.toInt32)))).set ((u20 + (1 : Int32))).toNatClampNeg (.int (nar .byte (((48 : Int32) + v9).toInt8.toInt32)))))) (hu27 : u27 = (if v3 < (3 : Int32) then u24 else (u24 + (1 : Int32)))) (hw29 : w29 = (if v3 < (3 : Int32) then w26 else (w26.set (u24).toNatClampNeg (.int (nar .byte (((48 : Int32) + v11).toInt8.toInt32)))))) (c172 : ¬ v4 < (1 : Int32)) : ¬ u27 < (0 : Int32) ∧ u27 < (11 : Int32) := by
  clear hw29 hw26 hw22 hv17 hv15 hv13 hv11 hv9 hv7
  have ca_0 := c_mask i0 (1 : Int32) 1 (by decide) (by decide)
  have ca_1 := c_iadd ((((i0.toUInt32 >>> ((1 : Int32) &&& 31).toUInt32).toInt32) &&& (3 : Int32)) % (3 : Int32)) (1 : Int32)
  have ca_2 := c_irem (((i0.toUInt32 >>> ((1 : Int32) &&& 31).toUInt32).toInt32) &&& (3 : Int32)) (3 : Int32) 3 rfl
  have ca_3 := c_mask ((i0.toUInt32 >>> ((1 : Int32) &&& 31).toUInt32).toInt32) (3 : Int32) 2 (by decide) (by decide)
  have ca_4 := c_iushr i0 1 1 (by decide) (by decide)
  have ca_5 := c_mask ((i0.toUInt32 >>> ((3 : Int32) &&& 31).toUInt32).toInt32) (3 : Int32) 2 (by decide) (by decide)
  have ca_6 := c_iushr i0 3 3 (by decide) (by decide)
  have ca_7 := c_mask ((i0.toUInt32 >>> ((5 : Int32) &&& 31).toUInt32).toInt32) (1 : Int32) 1 (by decide) (by decide)
  have ca_8 := c_iushr i0 5 5 (by decide) (by decide)
  have ca_9 := c_iadd v5 (1 : Int32)
  have ca_10 := c_iadd u20 (1 : Int32)
  have ca_11 := c_iadd (u20 + (1 : Int32)) (1 : Int32)
  have ca_12 := c_iadd u24 (1 : Int32)
  have bl_0 := (i0).le_toInt; have bu_0 := (i0).toInt_lt
  have bl_1 := (u1).le_toInt; have bu_1 := (u1).toInt_lt
  have bl_2 := (v3).le_toInt; have bu_2 := (v3).toInt_lt
  have bl_3 := (v4).le_toInt; have bu_3 := (v4).toInt_lt
  have bl_4 := (v5).le_toInt; have bu_4 := (v5).toInt_lt
  have bl_5 := (u20).le_toInt; have bu_5 := (u20).toInt_lt
  have bl_6 := (u24).le_toInt; have bu_6 := (u24).toInt_lt
  have bl_7 := (u27).le_toInt; have bu_7 := (u27).toInt_lt
  have bl_8 := (((((i0.toUInt32 >>> ((1 : Int32) &&& 31).toUInt32).toInt32) &&& (3 : Int32)) % (3 : Int32)) + (1 : Int32)).le_toInt; have bu_8 := (((((i0.toUInt32 >>> ((1 : Int32) &&& 31).toUInt32).toInt32) &&& (3 : Int32)) % (3 : Int32)) + (1 : Int32)).toInt_lt
  have bl_9 := (v5 + (1 : Int32)).le_toInt; have bu_9 := (v5 + (1 : Int32)).toInt_lt
  have bl_10 := (u20 + (1 : Int32)).le_toInt; have bu_10 := (u20 + (1 : Int32)).toInt_lt
  have bl_11 := ((u20 + (1 : Int32)) + (1 : Int32)).le_toInt; have bu_11 := ((u20 + (1 : Int32)) + (1 : Int32)).toInt_lt
  have bl_12 := (u24 + (1 : Int32)).le_toInt; have bu_12 := (u24 + (1 : Int32)).toInt_lt
  try simp only [own_eqite, own_iteeq] at *
  try simp only [ne_eq, and_true, true_and, or_true, true_or, and_false, false_and, or_false, false_or, not_true_eq_false, not_false_eq_true, Int32.lt_iff_toInt_lt, Int64.lt_iff_toInt_lt, ← Int32.toInt_inj, ← Int64.toInt_inj, Int32.reduceToInt, Int64.reduceToInt] at *
  omega
set_option maxRecDepth 65536 in
set_option maxHeartbeats 40000000 in
theorem own_pre9 (i0 : Int32) (i1 : Int32) (i2 : Int32) (i3 : Int32) (u1 : Int32) (v3 : Int32) (v4 : Int32) (v5 : Int32) (v7 : Int32) (v9 : Int32) (v11 : Int32) (v13 : Int32) (v15 : Int32) (v17 : Int32) (u20 : Int32) (w22 : List Value) (u24 : Int32) (w26 : List Value) (u27 : Int32) (w29 : List Value) (hu1 : u1 = (if (i0 &&& (1 : Int32)) = (0 : Int32) then (0 : Int32) else (1 : Int32))) (hv3 : v3 = (((((i0.toUInt32 >>> ((1 : Int32) &&& 31).toUInt32).toInt32) &&& (3 : Int32)) % (3 : Int32)) + (1 : Int32))) (hv4 : v4 = (((i0.toUInt32 >>> ((3 : Int32) &&& 31).toUInt32).toInt32) &&& (3 : Int32))) (hv5 : v5 = (((i0.toUInt32 >>> ((5 : Int32) &&& 31).toUInt32).toInt32) &&& (1 : Int32))) (hv7 : v7 = (f1 i1 (0 : Int32))) (hv9 : v9 = (f1 i1 (1 : Int32))) (hv11 : v11 = (f1 i1 (2 : Int32))) (hv13 : v13 = (f1 i1 (3 : Int32))) (hv15 : v15 = (f1 i1 (4 : Int32))) (hv17 : v17 = (f1 i1 (5 : Int32))) (hu20 : u20 = (if u1 = (0 : Int32) then v5 else (v5 + (1 : Int32)))) (hw22 : w22 = (if u1 = (0 : Int32) then [(.int (nar .byte (i2.toInt8.toInt32))), (.int (0 : Int32)), (.int (0 : Int32)), (.int (0 : Int32)), (.int (0 : Int32)), (.int (0 : Int32)), (.int (0 : Int32)), (.int (0 : Int32)), (.int (0 : Int32)), (.int (0 : Int32)), (.int (0 : Int32))] else ([(.int (nar .byte (i2.toInt8.toInt32))), (.int (0 : Int32)), (.int (0 : Int32)), (.int (0 : Int32)), (.int (0 : Int32)), (.int (0 : Int32)), (.int (0 : Int32)), (.int (0 : Int32)), (.int (0 : Int32)), (.int (0 : Int32)), (.int (0 : Int32))].set (v5).toNatClampNeg (.int (nar .byte (45 : Int32)))))) (hu24 : u24 = (if v3 < (2 : Int32) then (u20 + (1 : Int32)) else ((u20 + (1 : Int32)) + (1 : Int32)))) (hw26 : w26 = (if v3 < (2 : Int32) then (w22.set (u20).toNatClampNeg (.int (nar .byte (((48 : Int32) + v7).toInt8.toInt32)))) else ((w22.set (u20).toNatClampNeg (.int (nar .byte (((48 : Int32) + v7).toInt8.toInt32)))).set ((u20 + (1 : Int32))).toNatClampNeg (.int (nar .byte (((48 : Int32) + v9).toInt8.toInt32)))))) (hu27 : u27 = (if v3 < (3 : Int32) then u24 else (u24 + (1 : Int32)))) (hw29 : w29 = (if v3 < (3 : Int32) then w26 else (w26.set (u24).toNatClampNeg (.int (nar .byte (((48 : Int32) + v11).toInt8.toInt32)))))) (c172 : ¬ v4 < (1 : Int32)) : (u27).toNatClampNeg < w29.length := by
  have lw22 : w22.length = 11 := by rw [hw22]; split <;> simp []
  have lw26 : w26.length = 11 := by rw [hw26]; split <;> simp [lw22]
  have lw29 : w29.length = 11 := by rw [hw29]; split <;> simp [lw22, lw26]
  have hb : ¬ u27 < (0 : Int32) ∧ u27 < (11 : Int32) := by
    clear lw22 lw26 lw29
    clear hw29 hw26 hw22 hv17 hv15 hv13 hv11 hv9 hv7
    have ca_0 := c_mask i0 (1 : Int32) 1 (by decide) (by decide)
    have ca_1 := c_iadd ((((i0.toUInt32 >>> ((1 : Int32) &&& 31).toUInt32).toInt32) &&& (3 : Int32)) % (3 : Int32)) (1 : Int32)
    have ca_2 := c_irem (((i0.toUInt32 >>> ((1 : Int32) &&& 31).toUInt32).toInt32) &&& (3 : Int32)) (3 : Int32) 3 rfl
    have ca_3 := c_mask ((i0.toUInt32 >>> ((1 : Int32) &&& 31).toUInt32).toInt32) (3 : Int32) 2 (by decide) (by decide)
    have ca_4 := c_iushr i0 1 1 (by decide) (by decide)
    have ca_5 := c_mask ((i0.toUInt32 >>> ((3 : Int32) &&& 31).toUInt32).toInt32) (3 : Int32) 2 (by decide) (by decide)
    have ca_6 := c_iushr i0 3 3 (by decide) (by decide)
    have ca_7 := c_mask ((i0.toUInt32 >>> ((5 : Int32) &&& 31).toUInt32).toInt32) (1 : Int32) 1 (by decide) (by decide)
    have ca_8 := c_iushr i0 5 5 (by decide) (by decide)
    have ca_9 := c_iadd v5 (1 : Int32)
    have ca_10 := c_iadd u20 (1 : Int32)
    have ca_11 := c_iadd (u20 + (1 : Int32)) (1 : Int32)
    have ca_12 := c_iadd u24 (1 : Int32)
    have bl_0 := (i0).le_toInt; have bu_0 := (i0).toInt_lt
    have bl_1 := (u1).le_toInt; have bu_1 := (u1).toInt_lt
    have bl_2 := (v3).le_toInt; have bu_2 := (v3).toInt_lt
    have bl_3 := (v4).le_toInt; have bu_3 := (v4).toInt_lt
    have bl_4 := (v5).le_toInt; have bu_4 := (v5).toInt_lt
    have bl_5 := (u20).le_toInt; have bu_5 := (u20).toInt_lt
    have bl_6 := (u24).le_toInt; have bu_6 := (u24).toInt_lt
    have bl_7 := (u27).le_toInt; have bu_7 := (u27).toInt_lt
    have bl_8 := (((((i0.toUInt32 >>> ((1 : Int32) &&& 31).toUInt32).toInt32) &&& (3 : Int32)) % (3 : Int32)) + (1 : Int32)).le_toInt; have bu_8 := (((((i0.toUInt32 >>> ((1 : Int32) &&& 31).toUInt32).toInt32) &&& (3 : Int32)) % (3 : Int32)) + (1 : Int32)).toInt_lt
    have bl_9 := (v5 + (1 : Int32)).le_toInt; have bu_9 := (v5 + (1 : Int32)).toInt_lt
    have bl_10 := (u20 + (1 : Int32)).le_toInt; have bu_10 := (u20 + (1 : Int32)).toInt_lt
    have bl_11 := ((u20 + (1 : Int32)) + (1 : Int32)).le_toInt; have bu_11 := ((u20 + (1 : Int32)) + (1 : Int32)).toInt_lt
    have bl_12 := (u24 + (1 : Int32)).le_toInt; have bu_12 := (u24 + (1 : Int32)).toInt_lt
    try simp only [own_eqite, own_iteeq] at *
    try simp only [ne_eq, and_true, true_and, or_true, true_or, and_false, false_and, or_false, false_or, not_true_eq_false, not_false_eq_true, Int32.lt_iff_toInt_lt, Int64.lt_iff_toInt_lt, ← Int32.toInt_inj, ← Int64.toInt_inj, Int32.reduceToInt, Int64.reduceToInt] at *
    omega
  have hX : (u27).toNatClampNeg < 11 := by
    simp only [Int32.lt_iff_toInt_lt, Int32.reduceToInt] at hb; simp only [Int32.toNatClampNeg]; omega
  simpa [lw22, lw26, lw29] using hX
set_option maxRecDepth 65536 in
set_option maxHeartbeats 40000000 in
theorem own_pre10 (i0 : Int32) (i1 : Int32) (i2 : Int32) (i3 : Int32) (u1 : Int32) (v3 : Int32) (v4 : Int32) (v5 : Int32) (v7 : Int32) (v9 : Int32) (v11 : Int32) (v13 : Int32) (v15 : Int32) (v17 : Int32) (u20 : Int32) (w22 : List Value) (u24 : Int32) (w26 : List Value) (u27 : Int32) (w29 : List Value) (hu1 : u1 = (if (i0 &&& (1 : Int32)) = (0 : Int32) then (0 : Int32) else (1 : Int32))) (hv3 : v3 = (((((i0.toUInt32 >>> ((1 : Int32) &&& 31).toUInt32).toInt32) &&& (3 : Int32)) % (3 : Int32)) + (1 : Int32))) (hv4 : v4 = (((i0.toUInt32 >>> ((3 : Int32) &&& 31).toUInt32).toInt32) &&& (3 : Int32))) (hv5 : v5 = (((i0.toUInt32 >>> ((5 : Int32) &&& 31).toUInt32).toInt32) &&& (1 : Int32))) (hv7 : v7 = (f1 i1 (0 : Int32))) (hv9 : v9 = (f1 i1 (1 : Int32))) (hv11 : v11 = (f1 i1 (2 : Int32))) (hv13 : v13 = (f1 i1 (3 : Int32))) (hv15 : v15 = (f1 i1 (4 : Int32))) (hv17 : v17 = (f1 i1 (5 : Int32))) (hu20 : u20 = (if u1 = (0 : Int32) then v5 else (v5 + (1 : Int32)))) (hw22 : w22 = (if u1 = (0 : Int32) then [(.int (nar .byte (i2.toInt8.toInt32))), (.int (0 : Int32)), (.int (0 : Int32)), (.int (0 : Int32)), (.int (0 : Int32)), (.int (0 : Int32)), (.int (0 : Int32)), (.int (0 : Int32)), (.int (0 : Int32)), (.int (0 : Int32)), (.int (0 : Int32))] else ([(.int (nar .byte (i2.toInt8.toInt32))), (.int (0 : Int32)), (.int (0 : Int32)), (.int (0 : Int32)), (.int (0 : Int32)), (.int (0 : Int32)), (.int (0 : Int32)), (.int (0 : Int32)), (.int (0 : Int32)), (.int (0 : Int32)), (.int (0 : Int32))].set (v5).toNatClampNeg (.int (nar .byte (45 : Int32)))))) (hu24 : u24 = (if v3 < (2 : Int32) then (u20 + (1 : Int32)) else ((u20 + (1 : Int32)) + (1 : Int32)))) (hw26 : w26 = (if v3 < (2 : Int32) then (w22.set (u20).toNatClampNeg (.int (nar .byte (((48 : Int32) + v7).toInt8.toInt32)))) else ((w22.set (u20).toNatClampNeg (.int (nar .byte (((48 : Int32) + v7).toInt8.toInt32)))).set ((u20 + (1 : Int32))).toNatClampNeg (.int (nar .byte (((48 : Int32) + v9).toInt8.toInt32)))))) (hu27 : u27 = (if v3 < (3 : Int32) then u24 else (u24 + (1 : Int32)))) (hw29 : w29 = (if v3 < (3 : Int32) then w26 else (w26.set (u24).toNatClampNeg (.int (nar .byte (((48 : Int32) + v11).toInt8.toInt32)))))) (c172 : ¬ v4 < (1 : Int32)) : ¬ (u27 + (1 : Int32)) < (0 : Int32) ∧ (u27 + (1 : Int32)) < (11 : Int32) := by
  clear hw29 hw26 hw22 hv17 hv15 hv13 hv11 hv9 hv7
  have ca_0 := c_mask i0 (1 : Int32) 1 (by decide) (by decide)
  have ca_1 := c_iadd ((((i0.toUInt32 >>> ((1 : Int32) &&& 31).toUInt32).toInt32) &&& (3 : Int32)) % (3 : Int32)) (1 : Int32)
  have ca_2 := c_irem (((i0.toUInt32 >>> ((1 : Int32) &&& 31).toUInt32).toInt32) &&& (3 : Int32)) (3 : Int32) 3 rfl
  have ca_3 := c_mask ((i0.toUInt32 >>> ((1 : Int32) &&& 31).toUInt32).toInt32) (3 : Int32) 2 (by decide) (by decide)
  have ca_4 := c_iushr i0 1 1 (by decide) (by decide)
  have ca_5 := c_mask ((i0.toUInt32 >>> ((3 : Int32) &&& 31).toUInt32).toInt32) (3 : Int32) 2 (by decide) (by decide)
  have ca_6 := c_iushr i0 3 3 (by decide) (by decide)
  have ca_7 := c_mask ((i0.toUInt32 >>> ((5 : Int32) &&& 31).toUInt32).toInt32) (1 : Int32) 1 (by decide) (by decide)
  have ca_8 := c_iushr i0 5 5 (by decide) (by decide)
  have ca_9 := c_iadd v5 (1 : Int32)
  have ca_10 := c_iadd u20 (1 : Int32)
  have ca_11 := c_iadd (u20 + (1 : Int32)) (1 : Int32)
  have ca_12 := c_iadd u24 (1 : Int32)
  have ca_13 := c_iadd u27 (1 : Int32)
  have bl_0 := (i0).le_toInt; have bu_0 := (i0).toInt_lt
  have bl_1 := (u1).le_toInt; have bu_1 := (u1).toInt_lt
  have bl_2 := (v3).le_toInt; have bu_2 := (v3).toInt_lt
  have bl_3 := (v4).le_toInt; have bu_3 := (v4).toInt_lt
  have bl_4 := (v5).le_toInt; have bu_4 := (v5).toInt_lt
  have bl_5 := (u20).le_toInt; have bu_5 := (u20).toInt_lt
  have bl_6 := (u24).le_toInt; have bu_6 := (u24).toInt_lt
  have bl_7 := (u27).le_toInt; have bu_7 := (u27).toInt_lt
  have bl_8 := (((((i0.toUInt32 >>> ((1 : Int32) &&& 31).toUInt32).toInt32) &&& (3 : Int32)) % (3 : Int32)) + (1 : Int32)).le_toInt; have bu_8 := (((((i0.toUInt32 >>> ((1 : Int32) &&& 31).toUInt32).toInt32) &&& (3 : Int32)) % (3 : Int32)) + (1 : Int32)).toInt_lt
  have bl_9 := (v5 + (1 : Int32)).le_toInt; have bu_9 := (v5 + (1 : Int32)).toInt_lt
  have bl_10 := (u20 + (1 : Int32)).le_toInt; have bu_10 := (u20 + (1 : Int32)).toInt_lt
  have bl_11 := ((u20 + (1 : Int32)) + (1 : Int32)).le_toInt; have bu_11 := ((u20 + (1 : Int32)) + (1 : Int32)).toInt_lt
  have bl_12 := (u24 + (1 : Int32)).le_toInt; have bu_12 := (u24 + (1 : Int32)).toInt_lt
  have bl_13 := (u27 + (1 : Int32)).le_toInt; have bu_13 := (u27 + (1 : Int32)).toInt_lt
  try simp only [own_eqite, own_iteeq] at *
  try simp only [ne_eq, and_true, true_and, or_true, true_or, and_false, false_and, or_false, false_or, not_true_eq_false, not_false_eq_true, Int32.lt_iff_toInt_lt, Int64.lt_iff_toInt_lt, ← Int32.toInt_inj, ← Int64.toInt_inj, Int32.reduceToInt, Int64.reduceToInt] at *
  omega
set_option maxRecDepth 65536 in
set_option maxHeartbeats 40000000 in
theorem own_pre11 (i0 : Int32) (i1 : Int32) (i2 : Int32) (i3 : Int32) (u1 : Int32) (v3 : Int32) (v4 : Int32) (v5 : Int32) (v7 : Int32) (v9 : Int32) (v11 : Int32) (v13 : Int32) (v15 : Int32) (v17 : Int32) (u20 : Int32) (w22 : List Value) (u24 : Int32) (w26 : List Value) (u27 : Int32) (w29 : List Value) (hu1 : u1 = (if (i0 &&& (1 : Int32)) = (0 : Int32) then (0 : Int32) else (1 : Int32))) (hv3 : v3 = (((((i0.toUInt32 >>> ((1 : Int32) &&& 31).toUInt32).toInt32) &&& (3 : Int32)) % (3 : Int32)) + (1 : Int32))) (hv4 : v4 = (((i0.toUInt32 >>> ((3 : Int32) &&& 31).toUInt32).toInt32) &&& (3 : Int32))) (hv5 : v5 = (((i0.toUInt32 >>> ((5 : Int32) &&& 31).toUInt32).toInt32) &&& (1 : Int32))) (hv7 : v7 = (f1 i1 (0 : Int32))) (hv9 : v9 = (f1 i1 (1 : Int32))) (hv11 : v11 = (f1 i1 (2 : Int32))) (hv13 : v13 = (f1 i1 (3 : Int32))) (hv15 : v15 = (f1 i1 (4 : Int32))) (hv17 : v17 = (f1 i1 (5 : Int32))) (hu20 : u20 = (if u1 = (0 : Int32) then v5 else (v5 + (1 : Int32)))) (hw22 : w22 = (if u1 = (0 : Int32) then [(.int (nar .byte (i2.toInt8.toInt32))), (.int (0 : Int32)), (.int (0 : Int32)), (.int (0 : Int32)), (.int (0 : Int32)), (.int (0 : Int32)), (.int (0 : Int32)), (.int (0 : Int32)), (.int (0 : Int32)), (.int (0 : Int32)), (.int (0 : Int32))] else ([(.int (nar .byte (i2.toInt8.toInt32))), (.int (0 : Int32)), (.int (0 : Int32)), (.int (0 : Int32)), (.int (0 : Int32)), (.int (0 : Int32)), (.int (0 : Int32)), (.int (0 : Int32)), (.int (0 : Int32)), (.int (0 : Int32)), (.int (0 : Int32))].set (v5).toNatClampNeg (.int (nar .byte (45 : Int32)))))) (hu24 : u24 = (if v3 < (2 : Int32) then (u20 + (1 : Int32)) else ((u20 + (1 : Int32)) + (1 : Int32)))) (hw26 : w26 = (if v3 < (2 : Int32) then (w22.set (u20).toNatClampNeg (.int (nar .byte (((48 : Int32) + v7).toInt8.toInt32)))) else ((w22.set (u20).toNatClampNeg (.int (nar .byte (((48 : Int32) + v7).toInt8.toInt32)))).set ((u20 + (1 : Int32))).toNatClampNeg (.int (nar .byte (((48 : Int32) + v9).toInt8.toInt32)))))) (hu27 : u27 = (if v3 < (3 : Int32) then u24 else (u24 + (1 : Int32)))) (hw29 : w29 = (if v3 < (3 : Int32) then w26 else (w26.set (u24).toNatClampNeg (.int (nar .byte (((48 : Int32) + v11).toInt8.toInt32)))))) (c172 : ¬ v4 < (1 : Int32)) : ((u27 + (1 : Int32))).toNatClampNeg < (w29.set (u27).toNatClampNeg (Value.int (nar .byte (46 : Int32)))).length := by
  have lw22 : w22.length = 11 := by rw [hw22]; split <;> simp []
  have lw26 : w26.length = 11 := by rw [hw26]; split <;> simp [lw22]
  have lw29 : w29.length = 11 := by rw [hw29]; split <;> simp [lw22, lw26]
  have hb : ¬ (u27 + (1 : Int32)) < (0 : Int32) ∧ (u27 + (1 : Int32)) < (11 : Int32) := by
    clear lw22 lw26 lw29
    clear hw29 hw26 hw22 hv17 hv15 hv13 hv11 hv9 hv7
    have ca_0 := c_mask i0 (1 : Int32) 1 (by decide) (by decide)
    have ca_1 := c_iadd ((((i0.toUInt32 >>> ((1 : Int32) &&& 31).toUInt32).toInt32) &&& (3 : Int32)) % (3 : Int32)) (1 : Int32)
    have ca_2 := c_irem (((i0.toUInt32 >>> ((1 : Int32) &&& 31).toUInt32).toInt32) &&& (3 : Int32)) (3 : Int32) 3 rfl
    have ca_3 := c_mask ((i0.toUInt32 >>> ((1 : Int32) &&& 31).toUInt32).toInt32) (3 : Int32) 2 (by decide) (by decide)
    have ca_4 := c_iushr i0 1 1 (by decide) (by decide)
    have ca_5 := c_mask ((i0.toUInt32 >>> ((3 : Int32) &&& 31).toUInt32).toInt32) (3 : Int32) 2 (by decide) (by decide)
    have ca_6 := c_iushr i0 3 3 (by decide) (by decide)
    have ca_7 := c_mask ((i0.toUInt32 >>> ((5 : Int32) &&& 31).toUInt32).toInt32) (1 : Int32) 1 (by decide) (by decide)
    have ca_8 := c_iushr i0 5 5 (by decide) (by decide)
    have ca_9 := c_iadd v5 (1 : Int32)
    have ca_10 := c_iadd u20 (1 : Int32)
    have ca_11 := c_iadd (u20 + (1 : Int32)) (1 : Int32)
    have ca_12 := c_iadd u24 (1 : Int32)
    have ca_13 := c_iadd u27 (1 : Int32)
    have bl_0 := (i0).le_toInt; have bu_0 := (i0).toInt_lt
    have bl_1 := (u1).le_toInt; have bu_1 := (u1).toInt_lt
    have bl_2 := (v3).le_toInt; have bu_2 := (v3).toInt_lt
    have bl_3 := (v4).le_toInt; have bu_3 := (v4).toInt_lt
    have bl_4 := (v5).le_toInt; have bu_4 := (v5).toInt_lt
    have bl_5 := (u20).le_toInt; have bu_5 := (u20).toInt_lt
    have bl_6 := (u24).le_toInt; have bu_6 := (u24).toInt_lt
    have bl_7 := (u27).le_toInt; have bu_7 := (u27).toInt_lt
    have bl_8 := (((((i0.toUInt32 >>> ((1 : Int32) &&& 31).toUInt32).toInt32) &&& (3 : Int32)) % (3 : Int32)) + (1 : Int32)).le_toInt; have bu_8 := (((((i0.toUInt32 >>> ((1 : Int32) &&& 31).toUInt32).toInt32) &&& (3 : Int32)) % (3 : Int32)) + (1 : Int32)).toInt_lt
    have bl_9 := (v5 + (1 : Int32)).le_toInt; have bu_9 := (v5 + (1 : Int32)).toInt_lt
    have bl_10 := (u20 + (1 : Int32)).le_toInt; have bu_10 := (u20 + (1 : Int32)).toInt_lt
    have bl_11 := ((u20 + (1 : Int32)) + (1 : Int32)).le_toInt; have bu_11 := ((u20 + (1 : Int32)) + (1 : Int32)).toInt_lt
    have bl_12 := (u24 + (1 : Int32)).le_toInt; have bu_12 := (u24 + (1 : Int32)).toInt_lt
    have bl_13 := (u27 + (1 : Int32)).le_toInt; have bu_13 := (u27 + (1 : Int32)).toInt_lt
    try simp only [own_eqite, own_iteeq] at *
    try simp only [ne_eq, and_true, true_and, or_true, true_or, and_false, false_and, or_false, false_or, not_true_eq_false, not_false_eq_true, Int32.lt_iff_toInt_lt, Int64.lt_iff_toInt_lt, ← Int32.toInt_inj, ← Int64.toInt_inj, Int32.reduceToInt, Int64.reduceToInt] at *
    omega
  have hX : ((u27 + (1 : Int32))).toNatClampNeg < 11 := by
    simp only [Int32.lt_iff_toInt_lt, Int32.reduceToInt] at hb; simp only [Int32.toNatClampNeg]; omega
  simpa [lw22, lw26, lw29] using hX
set_option maxRecDepth 65536 in
set_option maxHeartbeats 40000000 in
theorem own_pre12 (i0 : Int32) (i1 : Int32) (i2 : Int32) (i3 : Int32) (u1 : Int32) (v3 : Int32) (v4 : Int32) (v5 : Int32) (v7 : Int32) (v9 : Int32) (v11 : Int32) (v13 : Int32) (v15 : Int32) (v17 : Int32) (u20 : Int32) (w22 : List Value) (u24 : Int32) (w26 : List Value) (u27 : Int32) (w29 : List Value) (u30 : Int32) (w32 : List Value) (hu1 : u1 = (if (i0 &&& (1 : Int32)) = (0 : Int32) then (0 : Int32) else (1 : Int32))) (hv3 : v3 = (((((i0.toUInt32 >>> ((1 : Int32) &&& 31).toUInt32).toInt32) &&& (3 : Int32)) % (3 : Int32)) + (1 : Int32))) (hv4 : v4 = (((i0.toUInt32 >>> ((3 : Int32) &&& 31).toUInt32).toInt32) &&& (3 : Int32))) (hv5 : v5 = (((i0.toUInt32 >>> ((5 : Int32) &&& 31).toUInt32).toInt32) &&& (1 : Int32))) (hv7 : v7 = (f1 i1 (0 : Int32))) (hv9 : v9 = (f1 i1 (1 : Int32))) (hv11 : v11 = (f1 i1 (2 : Int32))) (hv13 : v13 = (f1 i1 (3 : Int32))) (hv15 : v15 = (f1 i1 (4 : Int32))) (hv17 : v17 = (f1 i1 (5 : Int32))) (hu20 : u20 = (if u1 = (0 : Int32) then v5 else (v5 + (1 : Int32)))) (hw22 : w22 = (if u1 = (0 : Int32) then [(.int (nar .byte (i2.toInt8.toInt32))), (.int (0 : Int32)), (.int (0 : Int32)), (.int (0 : Int32)), (.int (0 : Int32)), (.int (0 : Int32)), (.int (0 : Int32)), (.int (0 : Int32)), (.int (0 : Int32)), (.int (0 : Int32)), (.int (0 : Int32))] else ([(.int (nar .byte (i2.toInt8.toInt32))), (.int (0 : Int32)), (.int (0 : Int32)), (.int (0 : Int32)), (.int (0 : Int32)), (.int (0 : Int32)), (.int (0 : Int32)), (.int (0 : Int32)), (.int (0 : Int32)), (.int (0 : Int32)), (.int (0 : Int32))].set (v5).toNatClampNeg (.int (nar .byte (45 : Int32)))))) (hu24 : u24 = (if v3 < (2 : Int32) then (u20 + (1 : Int32)) else ((u20 + (1 : Int32)) + (1 : Int32)))) (hw26 : w26 = (if v3 < (2 : Int32) then (w22.set (u20).toNatClampNeg (.int (nar .byte (((48 : Int32) + v7).toInt8.toInt32)))) else ((w22.set (u20).toNatClampNeg (.int (nar .byte (((48 : Int32) + v7).toInt8.toInt32)))).set ((u20 + (1 : Int32))).toNatClampNeg (.int (nar .byte (((48 : Int32) + v9).toInt8.toInt32)))))) (hu27 : u27 = (if v3 < (3 : Int32) then u24 else (u24 + (1 : Int32)))) (hw29 : w29 = (if v3 < (3 : Int32) then w26 else (w26.set (u24).toNatClampNeg (.int (nar .byte (((48 : Int32) + v11).toInt8.toInt32)))))) (hu30 : u30 = (if v4 < (1 : Int32) then u27 else ((u27 + (1 : Int32)) + (1 : Int32)))) (hw32 : w32 = (if v4 < (1 : Int32) then w29 else ((w29.set (u27).toNatClampNeg (.int (nar .byte (46 : Int32)))).set ((u27 + (1 : Int32))).toNatClampNeg (.int (nar .byte (((48 : Int32) + v13).toInt8.toInt32)))))) (c202 : ¬ v4 < (2 : Int32)) : ¬ u30 < (0 : Int32) ∧ u30 < (11 : Int32) := by
  clear hw32 hw29 hw26 hw22 hv17 hv15 hv13 hv11 hv9 hv7
  have ca_0 := c_mask i0 (1 : Int32) 1 (by decide) (by decide)
  have ca_1 := c_iadd ((((i0.toUInt32 >>> ((1 : Int32) &&& 31).toUInt32).toInt32) &&& (3 : Int32)) % (3 : Int32)) (1 : Int32)
  have ca_2 := c_irem (((i0.toUInt32 >>> ((1 : Int32) &&& 31).toUInt32).toInt32) &&& (3 : Int32)) (3 : Int32) 3 rfl
  have ca_3 := c_mask ((i0.toUInt32 >>> ((1 : Int32) &&& 31).toUInt32).toInt32) (3 : Int32) 2 (by decide) (by decide)
  have ca_4 := c_iushr i0 1 1 (by decide) (by decide)
  have ca_5 := c_mask ((i0.toUInt32 >>> ((3 : Int32) &&& 31).toUInt32).toInt32) (3 : Int32) 2 (by decide) (by decide)
  have ca_6 := c_iushr i0 3 3 (by decide) (by decide)
  have ca_7 := c_mask ((i0.toUInt32 >>> ((5 : Int32) &&& 31).toUInt32).toInt32) (1 : Int32) 1 (by decide) (by decide)
  have ca_8 := c_iushr i0 5 5 (by decide) (by decide)
  have ca_9 := c_iadd v5 (1 : Int32)
  have ca_10 := c_iadd u20 (1 : Int32)
  have ca_11 := c_iadd (u20 + (1 : Int32)) (1 : Int32)
  have ca_12 := c_iadd u24 (1 : Int32)
  have ca_13 := c_iadd (u27 + (1 : Int32)) (1 : Int32)
  have ca_14 := c_iadd u27 (1 : Int32)
  have bl_0 := (i0).le_toInt; have bu_0 := (i0).toInt_lt
  have bl_1 := (u1).le_toInt; have bu_1 := (u1).toInt_lt
  have bl_2 := (v3).le_toInt; have bu_2 := (v3).toInt_lt
  have bl_3 := (v4).le_toInt; have bu_3 := (v4).toInt_lt
  have bl_4 := (v5).le_toInt; have bu_4 := (v5).toInt_lt
  have bl_5 := (u20).le_toInt; have bu_5 := (u20).toInt_lt
  have bl_6 := (u24).le_toInt; have bu_6 := (u24).toInt_lt
  have bl_7 := (u27).le_toInt; have bu_7 := (u27).toInt_lt
  have bl_8 := (u30).le_toInt; have bu_8 := (u30).toInt_lt
  have bl_9 := (((((i0.toUInt32 >>> ((1 : Int32) &&& 31).toUInt32).toInt32) &&& (3 : Int32)) % (3 : Int32)) + (1 : Int32)).le_toInt; have bu_9 := (((((i0.toUInt32 >>> ((1 : Int32) &&& 31).toUInt32).toInt32) &&& (3 : Int32)) % (3 : Int32)) + (1 : Int32)).toInt_lt
  have bl_10 := (v5 + (1 : Int32)).le_toInt; have bu_10 := (v5 + (1 : Int32)).toInt_lt
  have bl_11 := (u20 + (1 : Int32)).le_toInt; have bu_11 := (u20 + (1 : Int32)).toInt_lt
  have bl_12 := ((u20 + (1 : Int32)) + (1 : Int32)).le_toInt; have bu_12 := ((u20 + (1 : Int32)) + (1 : Int32)).toInt_lt
  have bl_13 := (u24 + (1 : Int32)).le_toInt; have bu_13 := (u24 + (1 : Int32)).toInt_lt
  have bl_14 := ((u27 + (1 : Int32)) + (1 : Int32)).le_toInt; have bu_14 := ((u27 + (1 : Int32)) + (1 : Int32)).toInt_lt
  have bl_15 := (u27 + (1 : Int32)).le_toInt; have bu_15 := (u27 + (1 : Int32)).toInt_lt
  try simp only [own_eqite, own_iteeq] at *
  try simp only [ne_eq, and_true, true_and, or_true, true_or, and_false, false_and, or_false, false_or, not_true_eq_false, not_false_eq_true, Int32.lt_iff_toInt_lt, Int64.lt_iff_toInt_lt, ← Int32.toInt_inj, ← Int64.toInt_inj, Int32.reduceToInt, Int64.reduceToInt] at *
  omega
set_option maxRecDepth 65536 in
set_option maxHeartbeats 40000000 in
theorem own_pre13 (i0 : Int32) (i1 : Int32) (i2 : Int32) (i3 : Int32) (u1 : Int32) (v3 : Int32) (v4 : Int32) (v5 : Int32) (v7 : Int32) (v9 : Int32) (v11 : Int32) (v13 : Int32) (v15 : Int32) (v17 : Int32) (u20 : Int32) (w22 : List Value) (u24 : Int32) (w26 : List Value) (u27 : Int32) (w29 : List Value) (u30 : Int32) (w32 : List Value) (hu1 : u1 = (if (i0 &&& (1 : Int32)) = (0 : Int32) then (0 : Int32) else (1 : Int32))) (hv3 : v3 = (((((i0.toUInt32 >>> ((1 : Int32) &&& 31).toUInt32).toInt32) &&& (3 : Int32)) % (3 : Int32)) + (1 : Int32))) (hv4 : v4 = (((i0.toUInt32 >>> ((3 : Int32) &&& 31).toUInt32).toInt32) &&& (3 : Int32))) (hv5 : v5 = (((i0.toUInt32 >>> ((5 : Int32) &&& 31).toUInt32).toInt32) &&& (1 : Int32))) (hv7 : v7 = (f1 i1 (0 : Int32))) (hv9 : v9 = (f1 i1 (1 : Int32))) (hv11 : v11 = (f1 i1 (2 : Int32))) (hv13 : v13 = (f1 i1 (3 : Int32))) (hv15 : v15 = (f1 i1 (4 : Int32))) (hv17 : v17 = (f1 i1 (5 : Int32))) (hu20 : u20 = (if u1 = (0 : Int32) then v5 else (v5 + (1 : Int32)))) (hw22 : w22 = (if u1 = (0 : Int32) then [(.int (nar .byte (i2.toInt8.toInt32))), (.int (0 : Int32)), (.int (0 : Int32)), (.int (0 : Int32)), (.int (0 : Int32)), (.int (0 : Int32)), (.int (0 : Int32)), (.int (0 : Int32)), (.int (0 : Int32)), (.int (0 : Int32)), (.int (0 : Int32))] else ([(.int (nar .byte (i2.toInt8.toInt32))), (.int (0 : Int32)), (.int (0 : Int32)), (.int (0 : Int32)), (.int (0 : Int32)), (.int (0 : Int32)), (.int (0 : Int32)), (.int (0 : Int32)), (.int (0 : Int32)), (.int (0 : Int32)), (.int (0 : Int32))].set (v5).toNatClampNeg (.int (nar .byte (45 : Int32)))))) (hu24 : u24 = (if v3 < (2 : Int32) then (u20 + (1 : Int32)) else ((u20 + (1 : Int32)) + (1 : Int32)))) (hw26 : w26 = (if v3 < (2 : Int32) then (w22.set (u20).toNatClampNeg (.int (nar .byte (((48 : Int32) + v7).toInt8.toInt32)))) else ((w22.set (u20).toNatClampNeg (.int (nar .byte (((48 : Int32) + v7).toInt8.toInt32)))).set ((u20 + (1 : Int32))).toNatClampNeg (.int (nar .byte (((48 : Int32) + v9).toInt8.toInt32)))))) (hu27 : u27 = (if v3 < (3 : Int32) then u24 else (u24 + (1 : Int32)))) (hw29 : w29 = (if v3 < (3 : Int32) then w26 else (w26.set (u24).toNatClampNeg (.int (nar .byte (((48 : Int32) + v11).toInt8.toInt32)))))) (hu30 : u30 = (if v4 < (1 : Int32) then u27 else ((u27 + (1 : Int32)) + (1 : Int32)))) (hw32 : w32 = (if v4 < (1 : Int32) then w29 else ((w29.set (u27).toNatClampNeg (.int (nar .byte (46 : Int32)))).set ((u27 + (1 : Int32))).toNatClampNeg (.int (nar .byte (((48 : Int32) + v13).toInt8.toInt32)))))) (c202 : ¬ v4 < (2 : Int32)) : (u30).toNatClampNeg < w32.length := by
  have lw22 : w22.length = 11 := by rw [hw22]; split <;> simp []
  have lw26 : w26.length = 11 := by rw [hw26]; split <;> simp [lw22]
  have lw29 : w29.length = 11 := by rw [hw29]; split <;> simp [lw22, lw26]
  have lw32 : w32.length = 11 := by rw [hw32]; split <;> simp [lw22, lw26, lw29]
  have hb : ¬ u30 < (0 : Int32) ∧ u30 < (11 : Int32) := by
    clear lw22 lw26 lw29 lw32
    clear hw32 hw29 hw26 hw22 hv17 hv15 hv13 hv11 hv9 hv7
    have ca_0 := c_mask i0 (1 : Int32) 1 (by decide) (by decide)
    have ca_1 := c_iadd ((((i0.toUInt32 >>> ((1 : Int32) &&& 31).toUInt32).toInt32) &&& (3 : Int32)) % (3 : Int32)) (1 : Int32)
    have ca_2 := c_irem (((i0.toUInt32 >>> ((1 : Int32) &&& 31).toUInt32).toInt32) &&& (3 : Int32)) (3 : Int32) 3 rfl
    have ca_3 := c_mask ((i0.toUInt32 >>> ((1 : Int32) &&& 31).toUInt32).toInt32) (3 : Int32) 2 (by decide) (by decide)
    have ca_4 := c_iushr i0 1 1 (by decide) (by decide)
    have ca_5 := c_mask ((i0.toUInt32 >>> ((3 : Int32) &&& 31).toUInt32).toInt32) (3 : Int32) 2 (by decide) (by decide)
    have ca_6 := c_iushr i0 3 3 (by decide) (by decide)
    have ca_7 := c_mask ((i0.toUInt32 >>> ((5 : Int32) &&& 31).toUInt32).toInt32) (1 : Int32) 1 (by decide) (by decide)
    have ca_8 := c_iushr i0 5 5 (by decide) (by decide)
    have ca_9 := c_iadd v5 (1 : Int32)
    have ca_10 := c_iadd u20 (1 : Int32)
    have ca_11 := c_iadd (u20 + (1 : Int32)) (1 : Int32)
    have ca_12 := c_iadd u24 (1 : Int32)
    have ca_13 := c_iadd (u27 + (1 : Int32)) (1 : Int32)
    have ca_14 := c_iadd u27 (1 : Int32)
    have bl_0 := (i0).le_toInt; have bu_0 := (i0).toInt_lt
    have bl_1 := (u1).le_toInt; have bu_1 := (u1).toInt_lt
    have bl_2 := (v3).le_toInt; have bu_2 := (v3).toInt_lt
    have bl_3 := (v4).le_toInt; have bu_3 := (v4).toInt_lt
    have bl_4 := (v5).le_toInt; have bu_4 := (v5).toInt_lt
    have bl_5 := (u20).le_toInt; have bu_5 := (u20).toInt_lt
    have bl_6 := (u24).le_toInt; have bu_6 := (u24).toInt_lt
    have bl_7 := (u27).le_toInt; have bu_7 := (u27).toInt_lt
    have bl_8 := (u30).le_toInt; have bu_8 := (u30).toInt_lt
    have bl_9 := (((((i0.toUInt32 >>> ((1 : Int32) &&& 31).toUInt32).toInt32) &&& (3 : Int32)) % (3 : Int32)) + (1 : Int32)).le_toInt; have bu_9 := (((((i0.toUInt32 >>> ((1 : Int32) &&& 31).toUInt32).toInt32) &&& (3 : Int32)) % (3 : Int32)) + (1 : Int32)).toInt_lt
    have bl_10 := (v5 + (1 : Int32)).le_toInt; have bu_10 := (v5 + (1 : Int32)).toInt_lt
    have bl_11 := (u20 + (1 : Int32)).le_toInt; have bu_11 := (u20 + (1 : Int32)).toInt_lt
    have bl_12 := ((u20 + (1 : Int32)) + (1 : Int32)).le_toInt; have bu_12 := ((u20 + (1 : Int32)) + (1 : Int32)).toInt_lt
    have bl_13 := (u24 + (1 : Int32)).le_toInt; have bu_13 := (u24 + (1 : Int32)).toInt_lt
    have bl_14 := ((u27 + (1 : Int32)) + (1 : Int32)).le_toInt; have bu_14 := ((u27 + (1 : Int32)) + (1 : Int32)).toInt_lt
    have bl_15 := (u27 + (1 : Int32)).le_toInt; have bu_15 := (u27 + (1 : Int32)).toInt_lt
    try simp only [own_eqite, own_iteeq] at *
    try simp only [ne_eq, and_true, true_and, or_true, true_or, and_false, false_and, or_false, false_or, not_true_eq_false, not_false_eq_true, Int32.lt_iff_toInt_lt, Int64.lt_iff_toInt_lt, ← Int32.toInt_inj, ← Int64.toInt_inj, Int32.reduceToInt, Int64.reduceToInt] at *
    omega
  have hX : (u30).toNatClampNeg < 11 := by
    simp only [Int32.lt_iff_toInt_lt, Int32.reduceToInt] at hb; simp only [Int32.toNatClampNeg]; omega
  simpa [lw22, lw26, lw29, lw32] using hX
set_option maxRecDepth 65536 in
set_option maxHeartbeats 40000000 in
theorem own_pre14 (i0 : Int32) (i1 : Int32) (i2 : Int32) (i3 : Int32) (u1 : Int32) (v3 : Int32) (v4 : Int32) (v5 : Int32) (v7 : Int32) (v9 : Int32) (v11 : Int32) (v13 : Int32) (v15 : Int32) (v17 : Int32) (u20 : Int32) (w22 : List Value) (u24 : Int32) (w26 : List Value) (u27 : Int32) (w29 : List Value) (u30 : Int32) (w32 : List Value) (u33 : Int32) (w35 : List Value) (hu1 : u1 = (if (i0 &&& (1 : Int32)) = (0 : Int32) then (0 : Int32) else (1 : Int32))) (hv3 : v3 = (((((i0.toUInt32 >>> ((1 : Int32) &&& 31).toUInt32).toInt32) &&& (3 : Int32)) % (3 : Int32)) + (1 : Int32))) (hv4 : v4 = (((i0.toUInt32 >>> ((3 : Int32) &&& 31).toUInt32).toInt32) &&& (3 : Int32))) (hv5 : v5 = (((i0.toUInt32 >>> ((5 : Int32) &&& 31).toUInt32).toInt32) &&& (1 : Int32))) (hv7 : v7 = (f1 i1 (0 : Int32))) (hv9 : v9 = (f1 i1 (1 : Int32))) (hv11 : v11 = (f1 i1 (2 : Int32))) (hv13 : v13 = (f1 i1 (3 : Int32))) (hv15 : v15 = (f1 i1 (4 : Int32))) (hv17 : v17 = (f1 i1 (5 : Int32))) (hu20 : u20 = (if u1 = (0 : Int32) then v5 else (v5 + (1 : Int32)))) (hw22 : w22 = (if u1 = (0 : Int32) then [(.int (nar .byte (i2.toInt8.toInt32))), (.int (0 : Int32)), (.int (0 : Int32)), (.int (0 : Int32)), (.int (0 : Int32)), (.int (0 : Int32)), (.int (0 : Int32)), (.int (0 : Int32)), (.int (0 : Int32)), (.int (0 : Int32)), (.int (0 : Int32))] else ([(.int (nar .byte (i2.toInt8.toInt32))), (.int (0 : Int32)), (.int (0 : Int32)), (.int (0 : Int32)), (.int (0 : Int32)), (.int (0 : Int32)), (.int (0 : Int32)), (.int (0 : Int32)), (.int (0 : Int32)), (.int (0 : Int32)), (.int (0 : Int32))].set (v5).toNatClampNeg (.int (nar .byte (45 : Int32)))))) (hu24 : u24 = (if v3 < (2 : Int32) then (u20 + (1 : Int32)) else ((u20 + (1 : Int32)) + (1 : Int32)))) (hw26 : w26 = (if v3 < (2 : Int32) then (w22.set (u20).toNatClampNeg (.int (nar .byte (((48 : Int32) + v7).toInt8.toInt32)))) else ((w22.set (u20).toNatClampNeg (.int (nar .byte (((48 : Int32) + v7).toInt8.toInt32)))).set ((u20 + (1 : Int32))).toNatClampNeg (.int (nar .byte (((48 : Int32) + v9).toInt8.toInt32)))))) (hu27 : u27 = (if v3 < (3 : Int32) then u24 else (u24 + (1 : Int32)))) (hw29 : w29 = (if v3 < (3 : Int32) then w26 else (w26.set (u24).toNatClampNeg (.int (nar .byte (((48 : Int32) + v11).toInt8.toInt32)))))) (hu30 : u30 = (if v4 < (1 : Int32) then u27 else ((u27 + (1 : Int32)) + (1 : Int32)))) (hw32 : w32 = (if v4 < (1 : Int32) then w29 else ((w29.set (u27).toNatClampNeg (.int (nar .byte (46 : Int32)))).set ((u27 + (1 : Int32))).toNatClampNeg (.int (nar .byte (((48 : Int32) + v13).toInt8.toInt32)))))) (hu33 : u33 = (if v4 < (2 : Int32) then u30 else (u30 + (1 : Int32)))) (hw35 : w35 = (if v4 < (2 : Int32) then w32 else (w32.set (u30).toNatClampNeg (.int (nar .byte (((48 : Int32) + v15).toInt8.toInt32)))))) (c222 : ¬ v4 < (3 : Int32)) : ¬ u33 < (0 : Int32) ∧ u33 < (11 : Int32) := by
  clear hw35 hw32 hw29 hw26 hw22 hv17 hv15 hv13 hv11 hv9 hv7
  have ca_0 := c_mask i0 (1 : Int32) 1 (by decide) (by decide)
  have ca_1 := c_iadd ((((i0.toUInt32 >>> ((1 : Int32) &&& 31).toUInt32).toInt32) &&& (3 : Int32)) % (3 : Int32)) (1 : Int32)
  have ca_2 := c_irem (((i0.toUInt32 >>> ((1 : Int32) &&& 31).toUInt32).toInt32) &&& (3 : Int32)) (3 : Int32) 3 rfl
  have ca_3 := c_mask ((i0.toUInt32 >>> ((1 : Int32) &&& 31).toUInt32).toInt32) (3 : Int32) 2 (by decide) (by decide)
  have ca_4 := c_iushr i0 1 1 (by decide) (by decide)
  have ca_5 := c_mask ((i0.toUInt32 >>> ((3 : Int32) &&& 31).toUInt32).toInt32) (3 : Int32) 2 (by decide) (by decide)
  have ca_6 := c_iushr i0 3 3 (by decide) (by decide)
  have ca_7 := c_mask ((i0.toUInt32 >>> ((5 : Int32) &&& 31).toUInt32).toInt32) (1 : Int32) 1 (by decide) (by decide)
  have ca_8 := c_iushr i0 5 5 (by decide) (by decide)
  have ca_9 := c_iadd v5 (1 : Int32)
  have ca_10 := c_iadd u20 (1 : Int32)
  have ca_11 := c_iadd (u20 + (1 : Int32)) (1 : Int32)
  have ca_12 := c_iadd u24 (1 : Int32)
  have ca_13 := c_iadd (u27 + (1 : Int32)) (1 : Int32)
  have ca_14 := c_iadd u27 (1 : Int32)
  have ca_15 := c_iadd u30 (1 : Int32)
  have bl_0 := (i0).le_toInt; have bu_0 := (i0).toInt_lt
  have bl_1 := (u1).le_toInt; have bu_1 := (u1).toInt_lt
  have bl_2 := (v3).le_toInt; have bu_2 := (v3).toInt_lt
  have bl_3 := (v4).le_toInt; have bu_3 := (v4).toInt_lt
  have bl_4 := (v5).le_toInt; have bu_4 := (v5).toInt_lt
  have bl_5 := (u20).le_toInt; have bu_5 := (u20).toInt_lt
  have bl_6 := (u24).le_toInt; have bu_6 := (u24).toInt_lt
  have bl_7 := (u27).le_toInt; have bu_7 := (u27).toInt_lt
  have bl_8 := (u30).le_toInt; have bu_8 := (u30).toInt_lt
  have bl_9 := (u33).le_toInt; have bu_9 := (u33).toInt_lt
  have bl_10 := (((((i0.toUInt32 >>> ((1 : Int32) &&& 31).toUInt32).toInt32) &&& (3 : Int32)) % (3 : Int32)) + (1 : Int32)).le_toInt; have bu_10 := (((((i0.toUInt32 >>> ((1 : Int32) &&& 31).toUInt32).toInt32) &&& (3 : Int32)) % (3 : Int32)) + (1 : Int32)).toInt_lt
  have bl_11 := (v5 + (1 : Int32)).le_toInt; have bu_11 := (v5 + (1 : Int32)).toInt_lt
  have bl_12 := (u20 + (1 : Int32)).le_toInt; have bu_12 := (u20 + (1 : Int32)).toInt_lt
  have bl_13 := ((u20 + (1 : Int32)) + (1 : Int32)).le_toInt; have bu_13 := ((u20 + (1 : Int32)) + (1 : Int32)).toInt_lt
  have bl_14 := (u24 + (1 : Int32)).le_toInt; have bu_14 := (u24 + (1 : Int32)).toInt_lt
  have bl_15 := ((u27 + (1 : Int32)) + (1 : Int32)).le_toInt; have bu_15 := ((u27 + (1 : Int32)) + (1 : Int32)).toInt_lt
  have bl_16 := (u27 + (1 : Int32)).le_toInt; have bu_16 := (u27 + (1 : Int32)).toInt_lt
  have bl_17 := (u30 + (1 : Int32)).le_toInt; have bu_17 := (u30 + (1 : Int32)).toInt_lt
  try simp only [own_eqite, own_iteeq] at *
  try simp only [ne_eq, and_true, true_and, or_true, true_or, and_false, false_and, or_false, false_or, not_true_eq_false, not_false_eq_true, Int32.lt_iff_toInt_lt, Int64.lt_iff_toInt_lt, ← Int32.toInt_inj, ← Int64.toInt_inj, Int32.reduceToInt, Int64.reduceToInt] at *
  omega
set_option maxRecDepth 65536 in
set_option maxHeartbeats 40000000 in
theorem own_pre15 (i0 : Int32) (i1 : Int32) (i2 : Int32) (i3 : Int32) (u1 : Int32) (v3 : Int32) (v4 : Int32) (v5 : Int32) (v7 : Int32) (v9 : Int32) (v11 : Int32) (v13 : Int32) (v15 : Int32) (v17 : Int32) (u20 : Int32) (w22 : List Value) (u24 : Int32) (w26 : List Value) (u27 : Int32) (w29 : List Value) (u30 : Int32) (w32 : List Value) (u33 : Int32) (w35 : List Value) (hu1 : u1 = (if (i0 &&& (1 : Int32)) = (0 : Int32) then (0 : Int32) else (1 : Int32))) (hv3 : v3 = (((((i0.toUInt32 >>> ((1 : Int32) &&& 31).toUInt32).toInt32) &&& (3 : Int32)) % (3 : Int32)) + (1 : Int32))) (hv4 : v4 = (((i0.toUInt32 >>> ((3 : Int32) &&& 31).toUInt32).toInt32) &&& (3 : Int32))) (hv5 : v5 = (((i0.toUInt32 >>> ((5 : Int32) &&& 31).toUInt32).toInt32) &&& (1 : Int32))) (hv7 : v7 = (f1 i1 (0 : Int32))) (hv9 : v9 = (f1 i1 (1 : Int32))) (hv11 : v11 = (f1 i1 (2 : Int32))) (hv13 : v13 = (f1 i1 (3 : Int32))) (hv15 : v15 = (f1 i1 (4 : Int32))) (hv17 : v17 = (f1 i1 (5 : Int32))) (hu20 : u20 = (if u1 = (0 : Int32) then v5 else (v5 + (1 : Int32)))) (hw22 : w22 = (if u1 = (0 : Int32) then [(.int (nar .byte (i2.toInt8.toInt32))), (.int (0 : Int32)), (.int (0 : Int32)), (.int (0 : Int32)), (.int (0 : Int32)), (.int (0 : Int32)), (.int (0 : Int32)), (.int (0 : Int32)), (.int (0 : Int32)), (.int (0 : Int32)), (.int (0 : Int32))] else ([(.int (nar .byte (i2.toInt8.toInt32))), (.int (0 : Int32)), (.int (0 : Int32)), (.int (0 : Int32)), (.int (0 : Int32)), (.int (0 : Int32)), (.int (0 : Int32)), (.int (0 : Int32)), (.int (0 : Int32)), (.int (0 : Int32)), (.int (0 : Int32))].set (v5).toNatClampNeg (.int (nar .byte (45 : Int32)))))) (hu24 : u24 = (if v3 < (2 : Int32) then (u20 + (1 : Int32)) else ((u20 + (1 : Int32)) + (1 : Int32)))) (hw26 : w26 = (if v3 < (2 : Int32) then (w22.set (u20).toNatClampNeg (.int (nar .byte (((48 : Int32) + v7).toInt8.toInt32)))) else ((w22.set (u20).toNatClampNeg (.int (nar .byte (((48 : Int32) + v7).toInt8.toInt32)))).set ((u20 + (1 : Int32))).toNatClampNeg (.int (nar .byte (((48 : Int32) + v9).toInt8.toInt32)))))) (hu27 : u27 = (if v3 < (3 : Int32) then u24 else (u24 + (1 : Int32)))) (hw29 : w29 = (if v3 < (3 : Int32) then w26 else (w26.set (u24).toNatClampNeg (.int (nar .byte (((48 : Int32) + v11).toInt8.toInt32)))))) (hu30 : u30 = (if v4 < (1 : Int32) then u27 else ((u27 + (1 : Int32)) + (1 : Int32)))) (hw32 : w32 = (if v4 < (1 : Int32) then w29 else ((w29.set (u27).toNatClampNeg (.int (nar .byte (46 : Int32)))).set ((u27 + (1 : Int32))).toNatClampNeg (.int (nar .byte (((48 : Int32) + v13).toInt8.toInt32)))))) (hu33 : u33 = (if v4 < (2 : Int32) then u30 else (u30 + (1 : Int32)))) (hw35 : w35 = (if v4 < (2 : Int32) then w32 else (w32.set (u30).toNatClampNeg (.int (nar .byte (((48 : Int32) + v15).toInt8.toInt32)))))) (c222 : ¬ v4 < (3 : Int32)) : (u33).toNatClampNeg < w35.length := by
  have lw22 : w22.length = 11 := by rw [hw22]; split <;> simp []
  have lw26 : w26.length = 11 := by rw [hw26]; split <;> simp [lw22]
  have lw29 : w29.length = 11 := by rw [hw29]; split <;> simp [lw22, lw26]
  have lw32 : w32.length = 11 := by rw [hw32]; split <;> simp [lw22, lw26, lw29]
  have lw35 : w35.length = 11 := by rw [hw35]; split <;> simp [lw22, lw26, lw29, lw32]
  have hb : ¬ u33 < (0 : Int32) ∧ u33 < (11 : Int32) := by
    clear lw22 lw26 lw29 lw32 lw35
    clear hw35 hw32 hw29 hw26 hw22 hv17 hv15 hv13 hv11 hv9 hv7
    have ca_0 := c_mask i0 (1 : Int32) 1 (by decide) (by decide)
    have ca_1 := c_iadd ((((i0.toUInt32 >>> ((1 : Int32) &&& 31).toUInt32).toInt32) &&& (3 : Int32)) % (3 : Int32)) (1 : Int32)
    have ca_2 := c_irem (((i0.toUInt32 >>> ((1 : Int32) &&& 31).toUInt32).toInt32) &&& (3 : Int32)) (3 : Int32) 3 rfl
    have ca_3 := c_mask ((i0.toUInt32 >>> ((1 : Int32) &&& 31).toUInt32).toInt32) (3 : Int32) 2 (by decide) (by decide)
    have ca_4 := c_iushr i0 1 1 (by decide) (by decide)
    have ca_5 := c_mask ((i0.toUInt32 >>> ((3 : Int32) &&& 31).toUInt32).toInt32) (3 : Int32) 2 (by decide) (by decide)
    have ca_6 := c_iushr i0 3 3 (by decide) (by decide)
    have ca_7 := c_mask ((i0.toUInt32 >>> ((5 : Int32) &&& 31).toUInt32).toInt32) (1 : Int32) 1 (by decide) (by decide)
    have ca_8 := c_iushr i0 5 5 (by decide) (by decide)
    have ca_9 := c_iadd v5 (1 : Int32)
    have ca_10 := c_iadd u20 (1 : Int32)
    have ca_11 := c_iadd (u20 + (1 : Int32)) (1 : Int32)
    have ca_12 := c_iadd u24 (1 : Int32)
    have ca_13 := c_iadd (u27 + (1 : Int32)) (1 : Int32)
    have ca_14 := c_iadd u27 (1 : Int32)
    have ca_15 := c_iadd u30 (1 : Int32)
    have bl_0 := (i0).le_toInt; have bu_0 := (i0).toInt_lt
    have bl_1 := (u1).le_toInt; have bu_1 := (u1).toInt_lt
    have bl_2 := (v3).le_toInt; have bu_2 := (v3).toInt_lt
    have bl_3 := (v4).le_toInt; have bu_3 := (v4).toInt_lt
    have bl_4 := (v5).le_toInt; have bu_4 := (v5).toInt_lt
    have bl_5 := (u20).le_toInt; have bu_5 := (u20).toInt_lt
    have bl_6 := (u24).le_toInt; have bu_6 := (u24).toInt_lt
    have bl_7 := (u27).le_toInt; have bu_7 := (u27).toInt_lt
    have bl_8 := (u30).le_toInt; have bu_8 := (u30).toInt_lt
    have bl_9 := (u33).le_toInt; have bu_9 := (u33).toInt_lt
    have bl_10 := (((((i0.toUInt32 >>> ((1 : Int32) &&& 31).toUInt32).toInt32) &&& (3 : Int32)) % (3 : Int32)) + (1 : Int32)).le_toInt; have bu_10 := (((((i0.toUInt32 >>> ((1 : Int32) &&& 31).toUInt32).toInt32) &&& (3 : Int32)) % (3 : Int32)) + (1 : Int32)).toInt_lt
    have bl_11 := (v5 + (1 : Int32)).le_toInt; have bu_11 := (v5 + (1 : Int32)).toInt_lt
    have bl_12 := (u20 + (1 : Int32)).le_toInt; have bu_12 := (u20 + (1 : Int32)).toInt_lt
    have bl_13 := ((u20 + (1 : Int32)) + (1 : Int32)).le_toInt; have bu_13 := ((u20 + (1 : Int32)) + (1 : Int32)).toInt_lt
    have bl_14 := (u24 + (1 : Int32)).le_toInt; have bu_14 := (u24 + (1 : Int32)).toInt_lt
    have bl_15 := ((u27 + (1 : Int32)) + (1 : Int32)).le_toInt; have bu_15 := ((u27 + (1 : Int32)) + (1 : Int32)).toInt_lt
    have bl_16 := (u27 + (1 : Int32)).le_toInt; have bu_16 := (u27 + (1 : Int32)).toInt_lt
    have bl_17 := (u30 + (1 : Int32)).le_toInt; have bu_17 := (u30 + (1 : Int32)).toInt_lt
    try simp only [own_eqite, own_iteeq] at *
    try simp only [ne_eq, and_true, true_and, or_true, true_or, and_false, false_and, or_false, false_or, not_true_eq_false, not_false_eq_true, Int32.lt_iff_toInt_lt, Int64.lt_iff_toInt_lt, ← Int32.toInt_inj, ← Int64.toInt_inj, Int32.reduceToInt, Int64.reduceToInt] at *
    omega
  have hX : (u33).toNatClampNeg < 11 := by
    simp only [Int32.lt_iff_toInt_lt, Int32.reduceToInt] at hb; simp only [Int32.toNatClampNeg]; omega
  simpa [lw22, lw26, lw29, lw32, lw35] using hX
set_option maxRecDepth 65536 in
set_option maxHeartbeats 40000000 in
theorem own_pre16 (i0 : Int32) (i1 : Int32) (i2 : Int32) (i3 : Int32) (u1 : Int32) (v3 : Int32) (v4 : Int32) (v5 : Int32) (v7 : Int32) (v9 : Int32) (v11 : Int32) (v13 : Int32) (v15 : Int32) (v17 : Int32) (u20 : Int32) (w22 : List Value) (u24 : Int32) (w26 : List Value) (u27 : Int32) (w29 : List Value) (u30 : Int32) (w32 : List Value) (u33 : Int32) (w35 : List Value) (u36 : Int32) (w38 : List Value) (hu1 : u1 = (if (i0 &&& (1 : Int32)) = (0 : Int32) then (0 : Int32) else (1 : Int32))) (hv3 : v3 = (((((i0.toUInt32 >>> ((1 : Int32) &&& 31).toUInt32).toInt32) &&& (3 : Int32)) % (3 : Int32)) + (1 : Int32))) (hv4 : v4 = (((i0.toUInt32 >>> ((3 : Int32) &&& 31).toUInt32).toInt32) &&& (3 : Int32))) (hv5 : v5 = (((i0.toUInt32 >>> ((5 : Int32) &&& 31).toUInt32).toInt32) &&& (1 : Int32))) (hv7 : v7 = (f1 i1 (0 : Int32))) (hv9 : v9 = (f1 i1 (1 : Int32))) (hv11 : v11 = (f1 i1 (2 : Int32))) (hv13 : v13 = (f1 i1 (3 : Int32))) (hv15 : v15 = (f1 i1 (4 : Int32))) (hv17 : v17 = (f1 i1 (5 : Int32))) (hu20 : u20 = (if u1 = (0 : Int32) then v5 else (v5 + (1 : Int32)))) (hw22 : w22 = (if u1 = (0 : Int32) then [(.int (nar .byte (i2.toInt8.toInt32))), (.int (0 : Int32)), (.int (0 : Int32)), (.int (0 : Int32)), (.int (0 : Int32)), (.int (0 : Int32)), (.int (0 : Int32)), (.int (0 : Int32)), (.int (0 : Int32)), (.int (0 : Int32)), (.int (0 : Int32))] else ([(.int (nar .byte (i2.toInt8.toInt32))), (.int (0 : Int32)), (.int (0 : Int32)), (.int (0 : Int32)), (.int (0 : Int32)), (.int (0 : Int32)), (.int (0 : Int32)), (.int (0 : Int32)), (.int (0 : Int32)), (.int (0 : Int32)), (.int (0 : Int32))].set (v5).toNatClampNeg (.int (nar .byte (45 : Int32)))))) (hu24 : u24 = (if v3 < (2 : Int32) then (u20 + (1 : Int32)) else ((u20 + (1 : Int32)) + (1 : Int32)))) (hw26 : w26 = (if v3 < (2 : Int32) then (w22.set (u20).toNatClampNeg (.int (nar .byte (((48 : Int32) + v7).toInt8.toInt32)))) else ((w22.set (u20).toNatClampNeg (.int (nar .byte (((48 : Int32) + v7).toInt8.toInt32)))).set ((u20 + (1 : Int32))).toNatClampNeg (.int (nar .byte (((48 : Int32) + v9).toInt8.toInt32)))))) (hu27 : u27 = (if v3 < (3 : Int32) then u24 else (u24 + (1 : Int32)))) (hw29 : w29 = (if v3 < (3 : Int32) then w26 else (w26.set (u24).toNatClampNeg (.int (nar .byte (((48 : Int32) + v11).toInt8.toInt32)))))) (hu30 : u30 = (if v4 < (1 : Int32) then u27 else ((u27 + (1 : Int32)) + (1 : Int32)))) (hw32 : w32 = (if v4 < (1 : Int32) then w29 else ((w29.set (u27).toNatClampNeg (.int (nar .byte (46 : Int32)))).set ((u27 + (1 : Int32))).toNatClampNeg (.int (nar .byte (((48 : Int32) + v13).toInt8.toInt32)))))) (hu33 : u33 = (if v4 < (2 : Int32) then u30 else (u30 + (1 : Int32)))) (hw35 : w35 = (if v4 < (2 : Int32) then w32 else (w32.set (u30).toNatClampNeg (.int (nar .byte (((48 : Int32) + v15).toInt8.toInt32)))))) (hu36 : u36 = (if v4 < (3 : Int32) then u33 else (u33 + (1 : Int32)))) (hw38 : w38 = (if v4 < (3 : Int32) then w35 else (w35.set (u33).toNatClampNeg (.int (nar .byte (((48 : Int32) + v17).toInt8.toInt32)))))) : ¬ u36 < (0 : Int32) ∧ u36 < (11 : Int32) := by
  clear hw38 hw35 hw32 hw29 hw26 hw22 hv17 hv15 hv13 hv11 hv9 hv7
  have ca_0 := c_mask i0 (1 : Int32) 1 (by decide) (by decide)
  have ca_1 := c_iadd ((((i0.toUInt32 >>> ((1 : Int32) &&& 31).toUInt32).toInt32) &&& (3 : Int32)) % (3 : Int32)) (1 : Int32)
  have ca_2 := c_irem (((i0.toUInt32 >>> ((1 : Int32) &&& 31).toUInt32).toInt32) &&& (3 : Int32)) (3 : Int32) 3 rfl
  have ca_3 := c_mask ((i0.toUInt32 >>> ((1 : Int32) &&& 31).toUInt32).toInt32) (3 : Int32) 2 (by decide) (by decide)
  have ca_4 := c_iushr i0 1 1 (by decide) (by decide)
  have ca_5 := c_mask ((i0.toUInt32 >>> ((3 : Int32) &&& 31).toUInt32).toInt32) (3 : Int32) 2 (by decide) (by decide)
  have ca_6 := c_iushr i0 3 3 (by decide) (by decide)
  have ca_7 := c_mask ((i0.toUInt32 >>> ((5 : Int32) &&& 31).toUInt32).toInt32) (1 : Int32) 1 (by decide) (by decide)
  have ca_8 := c_iushr i0 5 5 (by decide) (by decide)
  have ca_9 := c_iadd v5 (1 : Int32)
  have ca_10 := c_iadd u20 (1 : Int32)
  have ca_11 := c_iadd (u20 + (1 : Int32)) (1 : Int32)
  have ca_12 := c_iadd u24 (1 : Int32)
  have ca_13 := c_iadd (u27 + (1 : Int32)) (1 : Int32)
  have ca_14 := c_iadd u27 (1 : Int32)
  have ca_15 := c_iadd u30 (1 : Int32)
  have ca_16 := c_iadd u33 (1 : Int32)
  have bl_0 := (i0).le_toInt; have bu_0 := (i0).toInt_lt
  have bl_1 := (u1).le_toInt; have bu_1 := (u1).toInt_lt
  have bl_2 := (v3).le_toInt; have bu_2 := (v3).toInt_lt
  have bl_3 := (v4).le_toInt; have bu_3 := (v4).toInt_lt
  have bl_4 := (v5).le_toInt; have bu_4 := (v5).toInt_lt
  have bl_5 := (u20).le_toInt; have bu_5 := (u20).toInt_lt
  have bl_6 := (u24).le_toInt; have bu_6 := (u24).toInt_lt
  have bl_7 := (u27).le_toInt; have bu_7 := (u27).toInt_lt
  have bl_8 := (u30).le_toInt; have bu_8 := (u30).toInt_lt
  have bl_9 := (u33).le_toInt; have bu_9 := (u33).toInt_lt
  have bl_10 := (u36).le_toInt; have bu_10 := (u36).toInt_lt
  have bl_11 := (((((i0.toUInt32 >>> ((1 : Int32) &&& 31).toUInt32).toInt32) &&& (3 : Int32)) % (3 : Int32)) + (1 : Int32)).le_toInt; have bu_11 := (((((i0.toUInt32 >>> ((1 : Int32) &&& 31).toUInt32).toInt32) &&& (3 : Int32)) % (3 : Int32)) + (1 : Int32)).toInt_lt
  have bl_12 := (v5 + (1 : Int32)).le_toInt; have bu_12 := (v5 + (1 : Int32)).toInt_lt
  have bl_13 := (u20 + (1 : Int32)).le_toInt; have bu_13 := (u20 + (1 : Int32)).toInt_lt
  have bl_14 := ((u20 + (1 : Int32)) + (1 : Int32)).le_toInt; have bu_14 := ((u20 + (1 : Int32)) + (1 : Int32)).toInt_lt
  have bl_15 := (u24 + (1 : Int32)).le_toInt; have bu_15 := (u24 + (1 : Int32)).toInt_lt
  have bl_16 := ((u27 + (1 : Int32)) + (1 : Int32)).le_toInt; have bu_16 := ((u27 + (1 : Int32)) + (1 : Int32)).toInt_lt
  have bl_17 := (u27 + (1 : Int32)).le_toInt; have bu_17 := (u27 + (1 : Int32)).toInt_lt
  have bl_18 := (u30 + (1 : Int32)).le_toInt; have bu_18 := (u30 + (1 : Int32)).toInt_lt
  have bl_19 := (u33 + (1 : Int32)).le_toInt; have bu_19 := (u33 + (1 : Int32)).toInt_lt
  try simp only [own_eqite, own_iteeq] at *
  try simp only [ne_eq, and_true, true_and, or_true, true_or, and_false, false_and, or_false, false_or, not_true_eq_false, not_false_eq_true, Int32.lt_iff_toInt_lt, Int64.lt_iff_toInt_lt, ← Int32.toInt_inj, ← Int64.toInt_inj, Int32.reduceToInt, Int64.reduceToInt] at *
  omega
set_option maxRecDepth 65536 in
set_option maxHeartbeats 40000000 in
theorem own_pre17 (i0 : Int32) (i1 : Int32) (i2 : Int32) (i3 : Int32) (u1 : Int32) (v3 : Int32) (v4 : Int32) (v5 : Int32) (v7 : Int32) (v9 : Int32) (v11 : Int32) (v13 : Int32) (v15 : Int32) (v17 : Int32) (u20 : Int32) (w22 : List Value) (u24 : Int32) (w26 : List Value) (u27 : Int32) (w29 : List Value) (u30 : Int32) (w32 : List Value) (u33 : Int32) (w35 : List Value) (u36 : Int32) (w38 : List Value) (hu1 : u1 = (if (i0 &&& (1 : Int32)) = (0 : Int32) then (0 : Int32) else (1 : Int32))) (hv3 : v3 = (((((i0.toUInt32 >>> ((1 : Int32) &&& 31).toUInt32).toInt32) &&& (3 : Int32)) % (3 : Int32)) + (1 : Int32))) (hv4 : v4 = (((i0.toUInt32 >>> ((3 : Int32) &&& 31).toUInt32).toInt32) &&& (3 : Int32))) (hv5 : v5 = (((i0.toUInt32 >>> ((5 : Int32) &&& 31).toUInt32).toInt32) &&& (1 : Int32))) (hv7 : v7 = (f1 i1 (0 : Int32))) (hv9 : v9 = (f1 i1 (1 : Int32))) (hv11 : v11 = (f1 i1 (2 : Int32))) (hv13 : v13 = (f1 i1 (3 : Int32))) (hv15 : v15 = (f1 i1 (4 : Int32))) (hv17 : v17 = (f1 i1 (5 : Int32))) (hu20 : u20 = (if u1 = (0 : Int32) then v5 else (v5 + (1 : Int32)))) (hw22 : w22 = (if u1 = (0 : Int32) then [(.int (nar .byte (i2.toInt8.toInt32))), (.int (0 : Int32)), (.int (0 : Int32)), (.int (0 : Int32)), (.int (0 : Int32)), (.int (0 : Int32)), (.int (0 : Int32)), (.int (0 : Int32)), (.int (0 : Int32)), (.int (0 : Int32)), (.int (0 : Int32))] else ([(.int (nar .byte (i2.toInt8.toInt32))), (.int (0 : Int32)), (.int (0 : Int32)), (.int (0 : Int32)), (.int (0 : Int32)), (.int (0 : Int32)), (.int (0 : Int32)), (.int (0 : Int32)), (.int (0 : Int32)), (.int (0 : Int32)), (.int (0 : Int32))].set (v5).toNatClampNeg (.int (nar .byte (45 : Int32)))))) (hu24 : u24 = (if v3 < (2 : Int32) then (u20 + (1 : Int32)) else ((u20 + (1 : Int32)) + (1 : Int32)))) (hw26 : w26 = (if v3 < (2 : Int32) then (w22.set (u20).toNatClampNeg (.int (nar .byte (((48 : Int32) + v7).toInt8.toInt32)))) else ((w22.set (u20).toNatClampNeg (.int (nar .byte (((48 : Int32) + v7).toInt8.toInt32)))).set ((u20 + (1 : Int32))).toNatClampNeg (.int (nar .byte (((48 : Int32) + v9).toInt8.toInt32)))))) (hu27 : u27 = (if v3 < (3 : Int32) then u24 else (u24 + (1 : Int32)))) (hw29 : w29 = (if v3 < (3 : Int32) then w26 else (w26.set (u24).toNatClampNeg (.int (nar .byte (((48 : Int32) + v11).toInt8.toInt32)))))) (hu30 : u30 = (if v4 < (1 : Int32) then u27 else ((u27 + (1 : Int32)) + (1 : Int32)))) (hw32 : w32 = (if v4 < (1 : Int32) then w29 else ((w29.set (u27).toNatClampNeg (.int (nar .byte (46 : Int32)))).set ((u27 + (1 : Int32))).toNatClampNeg (.int (nar .byte (((48 : Int32) + v13).toInt8.toInt32)))))) (hu33 : u33 = (if v4 < (2 : Int32) then u30 else (u30 + (1 : Int32)))) (hw35 : w35 = (if v4 < (2 : Int32) then w32 else (w32.set (u30).toNatClampNeg (.int (nar .byte (((48 : Int32) + v15).toInt8.toInt32)))))) (hu36 : u36 = (if v4 < (3 : Int32) then u33 else (u33 + (1 : Int32)))) (hw38 : w38 = (if v4 < (3 : Int32) then w35 else (w35.set (u33).toNatClampNeg (.int (nar .byte (((48 : Int32) + v17).toInt8.toInt32)))))) : (u36).toNatClampNeg < w38.length := by
  have lw22 : w22.length = 11 := by rw [hw22]; split <;> simp []
  have lw26 : w26.length = 11 := by rw [hw26]; split <;> simp [lw22]
  have lw29 : w29.length = 11 := by rw [hw29]; split <;> simp [lw22, lw26]
  have lw32 : w32.length = 11 := by rw [hw32]; split <;> simp [lw22, lw26, lw29]
  have lw35 : w35.length = 11 := by rw [hw35]; split <;> simp [lw22, lw26, lw29, lw32]
  have lw38 : w38.length = 11 := by rw [hw38]; split <;> simp [lw22, lw26, lw29, lw32, lw35]
  have hb : ¬ u36 < (0 : Int32) ∧ u36 < (11 : Int32) := by
    clear lw22 lw26 lw29 lw32 lw35 lw38
    clear hw38 hw35 hw32 hw29 hw26 hw22 hv17 hv15 hv13 hv11 hv9 hv7
    have ca_0 := c_mask i0 (1 : Int32) 1 (by decide) (by decide)
    have ca_1 := c_iadd ((((i0.toUInt32 >>> ((1 : Int32) &&& 31).toUInt32).toInt32) &&& (3 : Int32)) % (3 : Int32)) (1 : Int32)
    have ca_2 := c_irem (((i0.toUInt32 >>> ((1 : Int32) &&& 31).toUInt32).toInt32) &&& (3 : Int32)) (3 : Int32) 3 rfl
    have ca_3 := c_mask ((i0.toUInt32 >>> ((1 : Int32) &&& 31).toUInt32).toInt32) (3 : Int32) 2 (by decide) (by decide)
    have ca_4 := c_iushr i0 1 1 (by decide) (by decide)
    have ca_5 := c_mask ((i0.toUInt32 >>> ((3 : Int32) &&& 31).toUInt32).toInt32) (3 : Int32) 2 (by decide) (by decide)
    have ca_6 := c_iushr i0 3 3 (by decide) (by decide)
    have ca_7 := c_mask ((i0.toUInt32 >>> ((5 : Int32) &&& 31).toUInt32).toInt32) (1 : Int32) 1 (by decide) (by decide)
    have ca_8 := c_iushr i0 5 5 (by decide) (by decide)
    have ca_9 := c_iadd v5 (1 : Int32)
    have ca_10 := c_iadd u20 (1 : Int32)
    have ca_11 := c_iadd (u20 + (1 : Int32)) (1 : Int32)
    have ca_12 := c_iadd u24 (1 : Int32)
    have ca_13 := c_iadd (u27 + (1 : Int32)) (1 : Int32)
    have ca_14 := c_iadd u27 (1 : Int32)
    have ca_15 := c_iadd u30 (1 : Int32)
    have ca_16 := c_iadd u33 (1 : Int32)
    have bl_0 := (i0).le_toInt; have bu_0 := (i0).toInt_lt
    have bl_1 := (u1).le_toInt; have bu_1 := (u1).toInt_lt
    have bl_2 := (v3).le_toInt; have bu_2 := (v3).toInt_lt
    have bl_3 := (v4).le_toInt; have bu_3 := (v4).toInt_lt
    have bl_4 := (v5).le_toInt; have bu_4 := (v5).toInt_lt
    have bl_5 := (u20).le_toInt; have bu_5 := (u20).toInt_lt
    have bl_6 := (u24).le_toInt; have bu_6 := (u24).toInt_lt
    have bl_7 := (u27).le_toInt; have bu_7 := (u27).toInt_lt
    have bl_8 := (u30).le_toInt; have bu_8 := (u30).toInt_lt
    have bl_9 := (u33).le_toInt; have bu_9 := (u33).toInt_lt
    have bl_10 := (u36).le_toInt; have bu_10 := (u36).toInt_lt
    have bl_11 := (((((i0.toUInt32 >>> ((1 : Int32) &&& 31).toUInt32).toInt32) &&& (3 : Int32)) % (3 : Int32)) + (1 : Int32)).le_toInt; have bu_11 := (((((i0.toUInt32 >>> ((1 : Int32) &&& 31).toUInt32).toInt32) &&& (3 : Int32)) % (3 : Int32)) + (1 : Int32)).toInt_lt
    have bl_12 := (v5 + (1 : Int32)).le_toInt; have bu_12 := (v5 + (1 : Int32)).toInt_lt
    have bl_13 := (u20 + (1 : Int32)).le_toInt; have bu_13 := (u20 + (1 : Int32)).toInt_lt
    have bl_14 := ((u20 + (1 : Int32)) + (1 : Int32)).le_toInt; have bu_14 := ((u20 + (1 : Int32)) + (1 : Int32)).toInt_lt
    have bl_15 := (u24 + (1 : Int32)).le_toInt; have bu_15 := (u24 + (1 : Int32)).toInt_lt
    have bl_16 := ((u27 + (1 : Int32)) + (1 : Int32)).le_toInt; have bu_16 := ((u27 + (1 : Int32)) + (1 : Int32)).toInt_lt
    have bl_17 := (u27 + (1 : Int32)).le_toInt; have bu_17 := (u27 + (1 : Int32)).toInt_lt
    have bl_18 := (u30 + (1 : Int32)).le_toInt; have bu_18 := (u30 + (1 : Int32)).toInt_lt
    have bl_19 := (u33 + (1 : Int32)).le_toInt; have bu_19 := (u33 + (1 : Int32)).toInt_lt
    try simp only [own_eqite, own_iteeq] at *
    try simp only [ne_eq, and_true, true_and, or_true, true_or, and_false, false_and, or_false, false_or, not_true_eq_false, not_false_eq_true, Int32.lt_iff_toInt_lt, Int64.lt_iff_toInt_lt, ← Int32.toInt_inj, ← Int64.toInt_inj, Int32.reduceToInt, Int64.reduceToInt] at *
    omega
  have hX : (u36).toNatClampNeg < 11 := by
    simp only [Int32.lt_iff_toInt_lt, Int32.reduceToInt] at hb; simp only [Int32.toNatClampNeg]; omega
  simpa [lw22, lw26, lw29, lw32, lw35, lw38] using hX
set_option maxRecDepth 65536 in
set_option maxHeartbeats 40000000 in
theorem own_pre18 (i0 : Int32) (i1 : Int32) (i2 : Int32) (i3 : Int32) (u1 : Int32) (v3 : Int32) (v4 : Int32) (v5 : Int32) (v7 : Int32) (v9 : Int32) (v11 : Int32) (v13 : Int32) (v15 : Int32) (v17 : Int32) (u20 : Int32) (w22 : List Value) (u24 : Int32) (w26 : List Value) (u27 : Int32) (w29 : List Value) (u30 : Int32) (w32 : List Value) (u33 : Int32) (w35 : List Value) (u36 : Int32) (w38 : List Value) (u40 : Int32) (u42 : Int32) (u44 : Int32) (hu1 : u1 = (if (i0 &&& (1 : Int32)) = (0 : Int32) then (0 : Int32) else (1 : Int32))) (hv3 : v3 = (((((i0.toUInt32 >>> ((1 : Int32) &&& 31).toUInt32).toInt32) &&& (3 : Int32)) % (3 : Int32)) + (1 : Int32))) (hv4 : v4 = (((i0.toUInt32 >>> ((3 : Int32) &&& 31).toUInt32).toInt32) &&& (3 : Int32))) (hv5 : v5 = (((i0.toUInt32 >>> ((5 : Int32) &&& 31).toUInt32).toInt32) &&& (1 : Int32))) (hv7 : v7 = (f1 i1 (0 : Int32))) (hv9 : v9 = (f1 i1 (1 : Int32))) (hv11 : v11 = (f1 i1 (2 : Int32))) (hv13 : v13 = (f1 i1 (3 : Int32))) (hv15 : v15 = (f1 i1 (4 : Int32))) (hv17 : v17 = (f1 i1 (5 : Int32))) (hu20 : u20 = (if u1 = (0 : Int32) then v5 else (v5 + (1 : Int32)))) (hw22 : w22 = (if u1 = (0 : Int32) then [(.int (nar .byte (i2.toInt8.toInt32))), (.int (0 : Int32)), (.int (0 : Int32)), (.int (0 : Int32)), (.int (0 : Int32)), (.int (0 : Int32)), (.int (0 : Int32)), (.int (0 : Int32)), (.int (0 : Int32)), (.int (0 : Int32)), (.int (0 : Int32))] else ([(.int (nar .byte (i2.toInt8.toInt32))), (.int (0 : Int32)), (.int (0 : Int32)), (.int (0 : Int32)), (.int (0 : Int32)), (.int (0 : Int32)), (.int (0 : Int32)), (.int (0 : Int32)), (.int (0 : Int32)), (.int (0 : Int32)), (.int (0 : Int32))].set (v5).toNatClampNeg (.int (nar .byte (45 : Int32)))))) (hu24 : u24 = (if v3 < (2 : Int32) then (u20 + (1 : Int32)) else ((u20 + (1 : Int32)) + (1 : Int32)))) (hw26 : w26 = (if v3 < (2 : Int32) then (w22.set (u20).toNatClampNeg (.int (nar .byte (((48 : Int32) + v7).toInt8.toInt32)))) else ((w22.set (u20).toNatClampNeg (.int (nar .byte (((48 : Int32) + v7).toInt8.toInt32)))).set ((u20 + (1 : Int32))).toNatClampNeg (.int (nar .byte (((48 : Int32) + v9).toInt8.toInt32)))))) (hu27 : u27 = (if v3 < (3 : Int32) then u24 else (u24 + (1 : Int32)))) (hw29 : w29 = (if v3 < (3 : Int32) then w26 else (w26.set (u24).toNatClampNeg (.int (nar .byte (((48 : Int32) + v11).toInt8.toInt32)))))) (hu30 : u30 = (if v4 < (1 : Int32) then u27 else ((u27 + (1 : Int32)) + (1 : Int32)))) (hw32 : w32 = (if v4 < (1 : Int32) then w29 else ((w29.set (u27).toNatClampNeg (.int (nar .byte (46 : Int32)))).set ((u27 + (1 : Int32))).toNatClampNeg (.int (nar .byte (((48 : Int32) + v13).toInt8.toInt32)))))) (hu33 : u33 = (if v4 < (2 : Int32) then u30 else (u30 + (1 : Int32)))) (hw35 : w35 = (if v4 < (2 : Int32) then w32 else (w32.set (u30).toNatClampNeg (.int (nar .byte (((48 : Int32) + v15).toInt8.toInt32)))))) (hu36 : u36 = (if v4 < (3 : Int32) then u33 else (u33 + (1 : Int32)))) (hw38 : w38 = (if v4 < (3 : Int32) then w35 else (w35.set (u33).toNatClampNeg (.int (nar .byte (((48 : Int32) + v17).toInt8.toInt32)))))) (hu40 : u40 = (if v3 < (2 : Int32) then (0 : Int32) else (if v7 = (0 : Int32) then (1 : Int32) else (0 : Int32)))) (hu42 : u42 = (if v7 = (0 : Int32) then (if v3 < (2 : Int32) then (if v3 < (3 : Int32) then (if v4 < (1 : Int32) then (if v4 < (2 : Int32) then (if v4 < (3 : Int32) then (1 : Int32) else (if v17 = (0 : Int32) then (1 : Int32) else (0 : Int32))) else (if v15 = (0 : Int32) then (if v4 < (3 : Int32) then (1 : Int32) else (if v17 = (0 : Int32) then (1 : Int32) else (0 : Int32))) else (0 : Int32))) else (if v13 = (0 : Int32) then (if v4 < (2 : Int32) then (if v4 < (3 : Int32) then (1 : Int32) else (if v17 = (0 : Int32) then (1 : Int32) else (0 : Int32))) else (if v15 = (0 : Int32) then (if v4 < (3 : Int32) then (1 : Int32) else (if v17 = (0 : Int32) then (1 : Int32) else (0 : Int32))) else (0 : Int32))) else (0 : Int32))) else (if v11 = (0 : Int32) then (if v4 < (1 : Int32) then (if v4 < (2 : Int32) then (if v4 < (3 : Int32) then (1 : Int32) else (if v17 = (0 : Int32) then (1 : Int32) else (0 : Int32))) else (if v15 = (0 : Int32) then (if v4 < (3 : Int32) then (1 : Int32) else (if v17 = (0 : Int32) then (1 : Int32) else (0 : Int32))) else (0 : Int32))) else (if v13 = (0 : Int32) then (if v4 < (2 : Int32) then (if v4 < (3 : Int32) then (1 : Int32) else (if v17 = (0 : Int32) then (1 : Int32) else (0 : Int32))) else (if v15 = (0 : Int32) then (if v4 < (3 : Int32) then (1 : Int32) else (if v17 = (0 : Int32) then (1 : Int32) else (0 : Int32))) else (0 : Int32))) else (0 : Int32))) else (0 : Int32))) else (if v9 = (0 : Int32) then (if v3 < (3 : Int32) then (if v4 < (1 : Int32) then (if v4 < (2 : Int32) then (if v4 < (3 : Int32) then (1 : Int32) else (if v17 = (0 : Int32) then (1 : Int32) else (0 : Int32))) else (if v15 = (0 : Int32) then (if v4 < (3 : Int32) then (1 : Int32) else (if v17 = (0 : Int32) then (1 : Int32) else (0 : Int32))) else (0 : Int32))) else (if v13 = (0 : Int32) then (if v4 < (2 : Int32) then (if v4 < (3 : Int32) then (1 : Int32) else (if v17 = (0 : Int32) then (1 : Int32) else (0 : Int32))) else (if v15 = (0 : Int32) then (if v4 < (3 : Int32) then (1 : Int32) else (if v17 = (0 : Int32) then (1 : Int32) else (0 : Int32))) else (0 : Int32))) else (0 : Int32))) else (if v11 = (0 : Int32) then (if v4 < (1 : Int32) then (if v4 < (2 : Int32) then (if v4 < (3 : Int32) then (1 : Int32) else (if v17 = (0 : Int32) then (1 : Int32) else (0 : Int32))) else (if v15 = (0 : Int32) then (if v4 < (3 : Int32) then (1 : Int32) else (if v17 = (0 : Int32) then (1 : Int32) else (0 : Int32))) else (0 : Int32))) else (if v13 = (0 : Int32) then (if v4 < (2 : Int32) then (if v4 < (3 : Int32) then (1 : Int32) else (if v17 = (0 : Int32) then (1 : Int32) else (0 : Int32))) else (if v15 = (0 : Int32) then (if v4 < (3 : Int32) then (1 : Int32) else (if v17 = (0 : Int32) then (1 : Int32) else (0 : Int32))) else (0 : Int32))) else (0 : Int32))) else (0 : Int32))) else (0 : Int32))) else (0 : Int32))) (hu44 : u44 = (if u40 = (0 : Int32) then (if u1 = (0 : Int32) then (1 : Int32) else (if u42 = (0 : Int32) then (1 : Int32) else (0 : Int32))) else (0 : Int32))) : ¬ v5 < (0 : Int32) := by
  clear hu44 hu42 hu40 hw38 hw35 hw32 hw29 hw26 hw22 hv17 hv15 hv13 hv11 hv9 hv7
  have ca_0 := c_mask i0 (1 : Int32) 1 (by decide) (by decide)
  have ca_1 := c_iadd ((((i0.toUInt32 >>> ((1 : Int32) &&& 31).toUInt32).toInt32) &&& (3 : Int32)) % (3 : Int32)) (1 : Int32)
  have ca_2 := c_irem (((i0.toUInt32 >>> ((1 : Int32) &&& 31).toUInt32).toInt32) &&& (3 : Int32)) (3 : Int32) 3 rfl
  have ca_3 := c_mask ((i0.toUInt32 >>> ((1 : Int32) &&& 31).toUInt32).toInt32) (3 : Int32) 2 (by decide) (by decide)
  have ca_4 := c_iushr i0 1 1 (by decide) (by decide)
  have ca_5 := c_mask ((i0.toUInt32 >>> ((3 : Int32) &&& 31).toUInt32).toInt32) (3 : Int32) 2 (by decide) (by decide)
  have ca_6 := c_iushr i0 3 3 (by decide) (by decide)
  have ca_7 := c_mask ((i0.toUInt32 >>> ((5 : Int32) &&& 31).toUInt32).toInt32) (1 : Int32) 1 (by decide) (by decide)
  have ca_8 := c_iushr i0 5 5 (by decide) (by decide)
  have ca_9 := c_iadd v5 (1 : Int32)
  have ca_10 := c_iadd u20 (1 : Int32)
  have ca_11 := c_iadd (u20 + (1 : Int32)) (1 : Int32)
  have ca_12 := c_iadd u24 (1 : Int32)
  have ca_13 := c_iadd (u27 + (1 : Int32)) (1 : Int32)
  have ca_14 := c_iadd u27 (1 : Int32)
  have ca_15 := c_iadd u30 (1 : Int32)
  have ca_16 := c_iadd u33 (1 : Int32)
  have bl_0 := (i0).le_toInt; have bu_0 := (i0).toInt_lt
  have bl_1 := (u1).le_toInt; have bu_1 := (u1).toInt_lt
  have bl_2 := (v3).le_toInt; have bu_2 := (v3).toInt_lt
  have bl_3 := (v4).le_toInt; have bu_3 := (v4).toInt_lt
  have bl_4 := (v5).le_toInt; have bu_4 := (v5).toInt_lt
  have bl_5 := (u20).le_toInt; have bu_5 := (u20).toInt_lt
  have bl_6 := (u24).le_toInt; have bu_6 := (u24).toInt_lt
  have bl_7 := (u27).le_toInt; have bu_7 := (u27).toInt_lt
  have bl_8 := (u30).le_toInt; have bu_8 := (u30).toInt_lt
  have bl_9 := (u33).le_toInt; have bu_9 := (u33).toInt_lt
  have bl_10 := (u36).le_toInt; have bu_10 := (u36).toInt_lt
  have bl_11 := (((((i0.toUInt32 >>> ((1 : Int32) &&& 31).toUInt32).toInt32) &&& (3 : Int32)) % (3 : Int32)) + (1 : Int32)).le_toInt; have bu_11 := (((((i0.toUInt32 >>> ((1 : Int32) &&& 31).toUInt32).toInt32) &&& (3 : Int32)) % (3 : Int32)) + (1 : Int32)).toInt_lt
  have bl_12 := (v5 + (1 : Int32)).le_toInt; have bu_12 := (v5 + (1 : Int32)).toInt_lt
  have bl_13 := (u20 + (1 : Int32)).le_toInt; have bu_13 := (u20 + (1 : Int32)).toInt_lt
  have bl_14 := ((u20 + (1 : Int32)) + (1 : Int32)).le_toInt; have bu_14 := ((u20 + (1 : Int32)) + (1 : Int32)).toInt_lt
  have bl_15 := (u24 + (1 : Int32)).le_toInt; have bu_15 := (u24 + (1 : Int32)).toInt_lt
  have bl_16 := ((u27 + (1 : Int32)) + (1 : Int32)).le_toInt; have bu_16 := ((u27 + (1 : Int32)) + (1 : Int32)).toInt_lt
  have bl_17 := (u27 + (1 : Int32)).le_toInt; have bu_17 := (u27 + (1 : Int32)).toInt_lt
  have bl_18 := (u30 + (1 : Int32)).le_toInt; have bu_18 := (u30 + (1 : Int32)).toInt_lt
  have bl_19 := (u33 + (1 : Int32)).le_toInt; have bu_19 := (u33 + (1 : Int32)).toInt_lt
  try simp only [own_eqite, own_iteeq] at *
  try simp only [ne_eq, and_true, true_and, or_true, true_or, and_false, false_and, or_false, false_or, not_true_eq_false, not_false_eq_true, Int32.lt_iff_toInt_lt, Int64.lt_iff_toInt_lt, ← Int32.toInt_inj, ← Int64.toInt_inj, Int32.reduceToInt, Int64.reduceToInt] at *
  omega
set_option maxRecDepth 65536 in
set_option maxHeartbeats 40000000 in
theorem own_pre19 (i0 : Int32) (i1 : Int32) (i2 : Int32) (i3 : Int32) (u1 : Int32) (v3 : Int32) (v4 : Int32) (v5 : Int32) (v7 : Int32) (v9 : Int32) (v11 : Int32) (v13 : Int32) (v15 : Int32) (v17 : Int32) (u20 : Int32) (w22 : List Value) (u24 : Int32) (w26 : List Value) (u27 : Int32) (w29 : List Value) (u30 : Int32) (w32 : List Value) (u33 : Int32) (w35 : List Value) (u36 : Int32) (w38 : List Value) (u40 : Int32) (u42 : Int32) (u44 : Int32) (hu1 : u1 = (if (i0 &&& (1 : Int32)) = (0 : Int32) then (0 : Int32) else (1 : Int32))) (hv3 : v3 = (((((i0.toUInt32 >>> ((1 : Int32) &&& 31).toUInt32).toInt32) &&& (3 : Int32)) % (3 : Int32)) + (1 : Int32))) (hv4 : v4 = (((i0.toUInt32 >>> ((3 : Int32) &&& 31).toUInt32).toInt32) &&& (3 : Int32))) (hv5 : v5 = (((i0.toUInt32 >>> ((5 : Int32) &&& 31).toUInt32).toInt32) &&& (1 : Int32))) (hv7 : v7 = (f1 i1 (0 : Int32))) (hv9 : v9 = (f1 i1 (1 : Int32))) (hv11 : v11 = (f1 i1 (2 : Int32))) (hv13 : v13 = (f1 i1 (3 : Int32))) (hv15 : v15 = (f1 i1 (4 : Int32))) (hv17 : v17 = (f1 i1 (5 : Int32))) (hu20 : u20 = (if u1 = (0 : Int32) then v5 else (v5 + (1 : Int32)))) (hw22 : w22 = (if u1 = (0 : Int32) then [(.int (nar .byte (i2.toInt8.toInt32))), (.int (0 : Int32)), (.int (0 : Int32)), (.int (0 : Int32)), (.int (0 : Int32)), (.int (0 : Int32)), (.int (0 : Int32)), (.int (0 : Int32)), (.int (0 : Int32)), (.int (0 : Int32)), (.int (0 : Int32))] else ([(.int (nar .byte (i2.toInt8.toInt32))), (.int (0 : Int32)), (.int (0 : Int32)), (.int (0 : Int32)), (.int (0 : Int32)), (.int (0 : Int32)), (.int (0 : Int32)), (.int (0 : Int32)), (.int (0 : Int32)), (.int (0 : Int32)), (.int (0 : Int32))].set (v5).toNatClampNeg (.int (nar .byte (45 : Int32)))))) (hu24 : u24 = (if v3 < (2 : Int32) then (u20 + (1 : Int32)) else ((u20 + (1 : Int32)) + (1 : Int32)))) (hw26 : w26 = (if v3 < (2 : Int32) then (w22.set (u20).toNatClampNeg (.int (nar .byte (((48 : Int32) + v7).toInt8.toInt32)))) else ((w22.set (u20).toNatClampNeg (.int (nar .byte (((48 : Int32) + v7).toInt8.toInt32)))).set ((u20 + (1 : Int32))).toNatClampNeg (.int (nar .byte (((48 : Int32) + v9).toInt8.toInt32)))))) (hu27 : u27 = (if v3 < (3 : Int32) then u24 else (u24 + (1 : Int32)))) (hw29 : w29 = (if v3 < (3 : Int32) then w26 else (w26.set (u24).toNatClampNeg (.int (nar .byte (((48 : Int32) + v11).toInt8.toInt32)))))) (hu30 : u30 = (if v4 < (1 : Int32) then u27 else ((u27 + (1 : Int32)) + (1 : Int32)))) (hw32 : w32 = (if v4 < (1 : Int32) then w29 else ((w29.set (u27).toNatClampNeg (.int (nar .byte (46 : Int32)))).set ((u27 + (1 : Int32))).toNatClampNeg (.int (nar .byte (((48 : Int32) + v13).toInt8.toInt32)))))) (hu33 : u33 = (if v4 < (2 : Int32) then u30 else (u30 + (1 : Int32)))) (hw35 : w35 = (if v4 < (2 : Int32) then w32 else (w32.set (u30).toNatClampNeg (.int (nar .byte (((48 : Int32) + v15).toInt8.toInt32)))))) (hu36 : u36 = (if v4 < (3 : Int32) then u33 else (u33 + (1 : Int32)))) (hw38 : w38 = (if v4 < (3 : Int32) then w35 else (w35.set (u33).toNatClampNeg (.int (nar .byte (((48 : Int32) + v17).toInt8.toInt32)))))) (hu40 : u40 = (if v3 < (2 : Int32) then (0 : Int32) else (if v7 = (0 : Int32) then (1 : Int32) else (0 : Int32)))) (hu42 : u42 = (if v7 = (0 : Int32) then (if v3 < (2 : Int32) then (if v3 < (3 : Int32) then (if v4 < (1 : Int32) then (if v4 < (2 : Int32) then (if v4 < (3 : Int32) then (1 : Int32) else (if v17 = (0 : Int32) then (1 : Int32) else (0 : Int32))) else (if v15 = (0 : Int32) then (if v4 < (3 : Int32) then (1 : Int32) else (if v17 = (0 : Int32) then (1 : Int32) else (0 : Int32))) else (0 : Int32))) else (if v13 = (0 : Int32) then (if v4 < (2 : Int32) then (if v4 < (3 : Int32) then (1 : Int32) else (if v17 = (0 : Int32) then (1 : Int32) else (0 : Int32))) else (if v15 = (0 : Int32) then (if v4 < (3 : Int32) then (1 : Int32) else (if v17 = (0 : Int32) then (1 : Int32) else (0 : Int32))) else (0 : Int32))) else (0 : Int32))) else (if v11 = (0 : Int32) then (if v4 < (1 : Int32) then (if v4 < (2 : Int32) then (if v4 < (3 : Int32) then (1 : Int32) else (if v17 = (0 : Int32) then (1 : Int32) else (0 : Int32))) else (if v15 = (0 : Int32) then (if v4 < (3 : Int32) then (1 : Int32) else (if v17 = (0 : Int32) then (1 : Int32) else (0 : Int32))) else (0 : Int32))) else (if v13 = (0 : Int32) then (if v4 < (2 : Int32) then (if v4 < (3 : Int32) then (1 : Int32) else (if v17 = (0 : Int32) then (1 : Int32) else (0 : Int32))) else (if v15 = (0 : Int32) then (if v4 < (3 : Int32) then (1 : Int32) else (if v17 = (0 : Int32) then (1 : Int32) else (0 : Int32))) else (0 : Int32))) else (0 : Int32))) else (0 : Int32))) else (if v9 = (0 : Int32) then (if v3 < (3 : Int32) then (if v4 < (1 : Int32) then (if v4 < (2 : Int32) then (if v4 < (3 : Int32) then (1 : Int32) else (if v17 = (0 : Int32) then (1 : Int32) else (0 : Int32))) else (if v15 = (0 : Int32) then (if v4 < (3 : Int32) then (1 : Int32) else (if v17 = (0 : Int32) then (1 : Int32) else (0 : Int32))) else (0 : Int32))) else (if v13 = (0 : Int32) then (if v4 < (2 : Int32) then (if v4 < (3 : Int32) then (1 : Int32) else (if v17 = (0 : Int32) then (1 : Int32) else (0 : Int32))) else (if v15 = (0 : Int32) then (if v4 < (3 : Int32) then (1 : Int32) else (if v17 = (0 : Int32) then (1 : Int32) else (0 : Int32))) else (0 : Int32))) else (0 : Int32))) else (if v11 = (0 : Int32) then (if v4 < (1 : Int32) then (if v4 < (2 : Int32) then (if v4 < (3 : Int32) then (1 : Int32) else (if v17 = (0 : Int32) then (1 : Int32) else (0 : Int32))) else (if v15 = (0 : Int32) then (if v4 < (3 : Int32) then (1 : Int32) else (if v17 = (0 : Int32) then (1 : Int32) else (0 : Int32))) else (0 : Int32))) else (if v13 = (0 : Int32) then (if v4 < (2 : Int32) then (if v4 < (3 : Int32) then (1 : Int32) else (if v17 = (0 : Int32) then (1 : Int32) else (0 : Int32))) else (if v15 = (0 : Int32) then (if v4 < (3 : Int32) then (1 : Int32) else (if v17 = (0 : Int32) then (1 : Int32) else (0 : Int32))) else (0 : Int32))) else (0 : Int32))) else (0 : Int32))) else (0 : Int32))) else (0 : Int32))) (hu44 : u44 = (if u40 = (0 : Int32) then (if u1 = (0 : Int32) then (1 : Int32) else (if u42 = (0 : Int32) then (1 : Int32) else (0 : Int32))) else (0 : Int32))) : ¬ (11 : Int32) < u36 := by
  clear hu44 hu42 hu40 hw38 hw35 hw32 hw29 hw26 hw22 hv17 hv15 hv13 hv11 hv9 hv7
  have ca_0 := c_mask i0 (1 : Int32) 1 (by decide) (by decide)
  have ca_1 := c_iadd ((((i0.toUInt32 >>> ((1 : Int32) &&& 31).toUInt32).toInt32) &&& (3 : Int32)) % (3 : Int32)) (1 : Int32)
  have ca_2 := c_irem (((i0.toUInt32 >>> ((1 : Int32) &&& 31).toUInt32).toInt32) &&& (3 : Int32)) (3 : Int32) 3 rfl
  have ca_3 := c_mask ((i0.toUInt32 >>> ((1 : Int32) &&& 31).toUInt32).toInt32) (3 : Int32) 2 (by decide) (by decide)
  have ca_4 := c_iushr i0 1 1 (by decide) (by decide)
  have ca_5 := c_mask ((i0.toUInt32 >>> ((3 : Int32) &&& 31).toUInt32).toInt32) (3 : Int32) 2 (by decide) (by decide)
  have ca_6 := c_iushr i0 3 3 (by decide) (by decide)
  have ca_7 := c_mask ((i0.toUInt32 >>> ((5 : Int32) &&& 31).toUInt32).toInt32) (1 : Int32) 1 (by decide) (by decide)
  have ca_8 := c_iushr i0 5 5 (by decide) (by decide)
  have ca_9 := c_iadd v5 (1 : Int32)
  have ca_10 := c_iadd u20 (1 : Int32)
  have ca_11 := c_iadd (u20 + (1 : Int32)) (1 : Int32)
  have ca_12 := c_iadd u24 (1 : Int32)
  have ca_13 := c_iadd (u27 + (1 : Int32)) (1 : Int32)
  have ca_14 := c_iadd u27 (1 : Int32)
  have ca_15 := c_iadd u30 (1 : Int32)
  have ca_16 := c_iadd u33 (1 : Int32)
  have bl_0 := (i0).le_toInt; have bu_0 := (i0).toInt_lt
  have bl_1 := (u1).le_toInt; have bu_1 := (u1).toInt_lt
  have bl_2 := (v3).le_toInt; have bu_2 := (v3).toInt_lt
  have bl_3 := (v4).le_toInt; have bu_3 := (v4).toInt_lt
  have bl_4 := (v5).le_toInt; have bu_4 := (v5).toInt_lt
  have bl_5 := (u20).le_toInt; have bu_5 := (u20).toInt_lt
  have bl_6 := (u24).le_toInt; have bu_6 := (u24).toInt_lt
  have bl_7 := (u27).le_toInt; have bu_7 := (u27).toInt_lt
  have bl_8 := (u30).le_toInt; have bu_8 := (u30).toInt_lt
  have bl_9 := (u33).le_toInt; have bu_9 := (u33).toInt_lt
  have bl_10 := (u36).le_toInt; have bu_10 := (u36).toInt_lt
  have bl_11 := (((((i0.toUInt32 >>> ((1 : Int32) &&& 31).toUInt32).toInt32) &&& (3 : Int32)) % (3 : Int32)) + (1 : Int32)).le_toInt; have bu_11 := (((((i0.toUInt32 >>> ((1 : Int32) &&& 31).toUInt32).toInt32) &&& (3 : Int32)) % (3 : Int32)) + (1 : Int32)).toInt_lt
  have bl_12 := (v5 + (1 : Int32)).le_toInt; have bu_12 := (v5 + (1 : Int32)).toInt_lt
  have bl_13 := (u20 + (1 : Int32)).le_toInt; have bu_13 := (u20 + (1 : Int32)).toInt_lt
  have bl_14 := ((u20 + (1 : Int32)) + (1 : Int32)).le_toInt; have bu_14 := ((u20 + (1 : Int32)) + (1 : Int32)).toInt_lt
  have bl_15 := (u24 + (1 : Int32)).le_toInt; have bu_15 := (u24 + (1 : Int32)).toInt_lt
  have bl_16 := ((u27 + (1 : Int32)) + (1 : Int32)).le_toInt; have bu_16 := ((u27 + (1 : Int32)) + (1 : Int32)).toInt_lt
  have bl_17 := (u27 + (1 : Int32)).le_toInt; have bu_17 := (u27 + (1 : Int32)).toInt_lt
  have bl_18 := (u30 + (1 : Int32)).le_toInt; have bu_18 := (u30 + (1 : Int32)).toInt_lt
  have bl_19 := (u33 + (1 : Int32)).le_toInt; have bu_19 := (u33 + (1 : Int32)).toInt_lt
  try simp only [own_eqite, own_iteeq] at *
  try simp only [ne_eq, and_true, true_and, or_true, true_or, and_false, false_and, or_false, false_or, not_true_eq_false, not_false_eq_true, Int32.lt_iff_toInt_lt, Int64.lt_iff_toInt_lt, ← Int32.toInt_inj, ← Int64.toInt_inj, Int32.reduceToInt, Int64.reduceToInt] at *
  omega
set_option maxRecDepth 65536 in
set_option maxHeartbeats 40000000 in
theorem own_pre20 (i0 : Int32) (i1 : Int32) (i2 : Int32) (i3 : Int32) (u1 : Int32) (v3 : Int32) (v4 : Int32) (v5 : Int32) (v7 : Int32) (v9 : Int32) (v11 : Int32) (v13 : Int32) (v15 : Int32) (v17 : Int32) (u20 : Int32) (w22 : List Value) (u24 : Int32) (w26 : List Value) (u27 : Int32) (w29 : List Value) (u30 : Int32) (w32 : List Value) (u33 : Int32) (w35 : List Value) (u36 : Int32) (w38 : List Value) (u40 : Int32) (u42 : Int32) (u44 : Int32) (hu1 : u1 = (if (i0 &&& (1 : Int32)) = (0 : Int32) then (0 : Int32) else (1 : Int32))) (hv3 : v3 = (((((i0.toUInt32 >>> ((1 : Int32) &&& 31).toUInt32).toInt32) &&& (3 : Int32)) % (3 : Int32)) + (1 : Int32))) (hv4 : v4 = (((i0.toUInt32 >>> ((3 : Int32) &&& 31).toUInt32).toInt32) &&& (3 : Int32))) (hv5 : v5 = (((i0.toUInt32 >>> ((5 : Int32) &&& 31).toUInt32).toInt32) &&& (1 : Int32))) (hv7 : v7 = (f1 i1 (0 : Int32))) (hv9 : v9 = (f1 i1 (1 : Int32))) (hv11 : v11 = (f1 i1 (2 : Int32))) (hv13 : v13 = (f1 i1 (3 : Int32))) (hv15 : v15 = (f1 i1 (4 : Int32))) (hv17 : v17 = (f1 i1 (5 : Int32))) (hu20 : u20 = (if u1 = (0 : Int32) then v5 else (v5 + (1 : Int32)))) (hw22 : w22 = (if u1 = (0 : Int32) then [(.int (nar .byte (i2.toInt8.toInt32))), (.int (0 : Int32)), (.int (0 : Int32)), (.int (0 : Int32)), (.int (0 : Int32)), (.int (0 : Int32)), (.int (0 : Int32)), (.int (0 : Int32)), (.int (0 : Int32)), (.int (0 : Int32)), (.int (0 : Int32))] else ([(.int (nar .byte (i2.toInt8.toInt32))), (.int (0 : Int32)), (.int (0 : Int32)), (.int (0 : Int32)), (.int (0 : Int32)), (.int (0 : Int32)), (.int (0 : Int32)), (.int (0 : Int32)), (.int (0 : Int32)), (.int (0 : Int32)), (.int (0 : Int32))].set (v5).toNatClampNeg (.int (nar .byte (45 : Int32)))))) (hu24 : u24 = (if v3 < (2 : Int32) then (u20 + (1 : Int32)) else ((u20 + (1 : Int32)) + (1 : Int32)))) (hw26 : w26 = (if v3 < (2 : Int32) then (w22.set (u20).toNatClampNeg (.int (nar .byte (((48 : Int32) + v7).toInt8.toInt32)))) else ((w22.set (u20).toNatClampNeg (.int (nar .byte (((48 : Int32) + v7).toInt8.toInt32)))).set ((u20 + (1 : Int32))).toNatClampNeg (.int (nar .byte (((48 : Int32) + v9).toInt8.toInt32)))))) (hu27 : u27 = (if v3 < (3 : Int32) then u24 else (u24 + (1 : Int32)))) (hw29 : w29 = (if v3 < (3 : Int32) then w26 else (w26.set (u24).toNatClampNeg (.int (nar .byte (((48 : Int32) + v11).toInt8.toInt32)))))) (hu30 : u30 = (if v4 < (1 : Int32) then u27 else ((u27 + (1 : Int32)) + (1 : Int32)))) (hw32 : w32 = (if v4 < (1 : Int32) then w29 else ((w29.set (u27).toNatClampNeg (.int (nar .byte (46 : Int32)))).set ((u27 + (1 : Int32))).toNatClampNeg (.int (nar .byte (((48 : Int32) + v13).toInt8.toInt32)))))) (hu33 : u33 = (if v4 < (2 : Int32) then u30 else (u30 + (1 : Int32)))) (hw35 : w35 = (if v4 < (2 : Int32) then w32 else (w32.set (u30).toNatClampNeg (.int (nar .byte (((48 : Int32) + v15).toInt8.toInt32)))))) (hu36 : u36 = (if v4 < (3 : Int32) then u33 else (u33 + (1 : Int32)))) (hw38 : w38 = (if v4 < (3 : Int32) then w35 else (w35.set (u33).toNatClampNeg (.int (nar .byte (((48 : Int32) + v17).toInt8.toInt32)))))) (hu40 : u40 = (if v3 < (2 : Int32) then (0 : Int32) else (if v7 = (0 : Int32) then (1 : Int32) else (0 : Int32)))) (hu42 : u42 = (if v7 = (0 : Int32) then (if v3 < (2 : Int32) then (if v3 < (3 : Int32) then (if v4 < (1 : Int32) then (if v4 < (2 : Int32) then (if v4 < (3 : Int32) then (1 : Int32) else (if v17 = (0 : Int32) then (1 : Int32) else (0 : Int32))) else (if v15 = (0 : Int32) then (if v4 < (3 : Int32) then (1 : Int32) else (if v17 = (0 : Int32) then (1 : Int32) else (0 : Int32))) else (0 : Int32))) else (if v13 = (0 : Int32) then (if v4 < (2 : Int32) then (if v4 < (3 : Int32) then (1 : Int32) else (if v17 = (0 : Int32) then (1 : Int32) else (0 : Int32))) else (if v15 = (0 : Int32) then (if v4 < (3 : Int32) then (1 : Int32) else (if v17 = (0 : Int32) then (1 : Int32) else (0 : Int32))) else (0 : Int32))) else (0 : Int32))) else (if v11 = (0 : Int32) then (if v4 < (1 : Int32) then (if v4 < (2 : Int32) then (if v4 < (3 : Int32) then (1 : Int32) else (if v17 = (0 : Int32) then (1 : Int32) else (0 : Int32))) else (if v15 = (0 : Int32) then (if v4 < (3 : Int32) then (1 : Int32) else (if v17 = (0 : Int32) then (1 : Int32) else (0 : Int32))) else (0 : Int32))) else (if v13 = (0 : Int32) then (if v4 < (2 : Int32) then (if v4 < (3 : Int32) then (1 : Int32) else (if v17 = (0 : Int32) then (1 : Int32) else (0 : Int32))) else (if v15 = (0 : Int32) then (if v4 < (3 : Int32) then (1 : Int32) else (if v17 = (0 : Int32) then (1 : Int32) else (0 : Int32))) else (0 : Int32))) else (0 : Int32))) else (0 : Int32))) else (if v9 = (0 : Int32) then (if v3 < (3 : Int32) then (if v4 < (1 : Int32) then (if v4 < (2 : Int32) then (if v4 < (3 : Int32) then (1 : Int32) else (if v17 = (0 : Int32) then (1 : Int32) else (0 : Int32))) else (if v15 = (0 : Int32) then (if v4 < (3 : Int32) then (1 : Int32) else (if v17 = (0 : Int32) then (1 : Int32) else (0 : Int32))) else (0 : Int32))) else (if v13 = (0 : Int32) then (if v4 < (2 : Int32) then (if v4 < (3 : Int32) then (1 : Int32) else (if v17 = (0 : Int32) then (1 : Int32) else (0 : Int32))) else (if v15 = (0 : Int32) then (if v4 < (3 : Int32) then (1 : Int32) else (if v17 = (0 : Int32) then (1 : Int32) else (0 : Int32))) else (0 : Int32))) else (0 : Int32))) else (if v11 = (0 : Int32) then (if v4 < (1 : Int32) then (if v4 < (2 : Int32) then (if v4 < (3 : Int32) then (1 : Int32) else (if v17 = (0 : Int32) then (1 : Int32) else (0 : Int32))) else (if v15 = (0 : Int32) then (if v4 < (3 : Int32) then (1 : Int32) else (if v17 = (0 : Int32) then (1 : Int32) else (0 : Int32))) else (0 : Int32))) else (if v13 = (0 : Int32) then (if v4 < (2 : Int32) then (if v4 < (3 : Int32) then (1 : Int32) else (if v17 = (0 : Int32) then (1 : Int32) else (0 : Int32))) else (if v15 = (0 : Int32) then (if v4 < (3 : Int32) then (1 : Int32) else (if v17 = (0 : Int32) then (1 : Int32) else (0 : Int32))) else (0 : Int32))) else (0 : Int32))) else (0 : Int32))) else (0 : Int32))) else (0 : Int32))) (hu44 : u44 = (if u40 = (0 : Int32) then (if u1 = (0 : Int32) then (1 : Int32) else (if u42 = (0 : Int32) then (1 : Int32) else (0 : Int32))) else (0 : Int32))) : ¬ u36 < v5 := by
  clear hu44 hu42 hu40 hw38 hw35 hw32 hw29 hw26 hw22 hv17 hv15 hv13 hv11 hv9 hv7
  have ca_0 := c_mask i0 (1 : Int32) 1 (by decide) (by decide)
  have ca_1 := c_iadd ((((i0.toUInt32 >>> ((1 : Int32) &&& 31).toUInt32).toInt32) &&& (3 : Int32)) % (3 : Int32)) (1 : Int32)
  have ca_2 := c_irem (((i0.toUInt32 >>> ((1 : Int32) &&& 31).toUInt32).toInt32) &&& (3 : Int32)) (3 : Int32) 3 rfl
  have ca_3 := c_mask ((i0.toUInt32 >>> ((1 : Int32) &&& 31).toUInt32).toInt32) (3 : Int32) 2 (by decide) (by decide)
  have ca_4 := c_iushr i0 1 1 (by decide) (by decide)
  have ca_5 := c_mask ((i0.toUInt32 >>> ((3 : Int32) &&& 31).toUInt32).toInt32) (3 : Int32) 2 (by decide) (by decide)
  have ca_6 := c_iushr i0 3 3 (by decide) (by decide)
  have ca_7 := c_mask ((i0.toUInt32 >>> ((5 : Int32) &&& 31).toUInt32).toInt32) (1 : Int32) 1 (by decide) (by decide)
  have ca_8 := c_iushr i0 5 5 (by decide) (by decide)
  have ca_9 := c_iadd v5 (1 : Int32)
  have ca_10 := c_iadd u20 (1 : Int32)
  have ca_11 := c_iadd (u20 + (1 : Int32)) (1 : Int32)
  have ca_12 := c_iadd u24 (1 : Int32)
  have ca_13 := c_iadd (u27 + (1 : Int32)) (1 : Int32)
  have ca_14 := c_iadd u27 (1 : Int32)
  have ca_15 := c_iadd u30 (1 : Int32)
  have ca_16 := c_iadd u33 (1 : Int32)
  have bl_0 := (i0).le_toInt; have bu_0 := (i0).toInt_lt
  have bl_1 := (u1).le_toInt; have bu_1 := (u1).toInt_lt
  have bl_2 := (v3).le_toInt; have bu_2 := (v3).toInt_lt
  have bl_3 := (v4).le_toInt; have bu_3 := (v4).toInt_lt
  have bl_4 := (v5).le_toInt; have bu_4 := (v5).toInt_lt
  have bl_5 := (u20).le_toInt; have bu_5 := (u20).toInt_lt
  have bl_6 := (u24).le_toInt; have bu_6 := (u24).toInt_lt
  have bl_7 := (u27).le_toInt; have bu_7 := (u27).toInt_lt
  have bl_8 := (u30).le_toInt; have bu_8 := (u30).toInt_lt
  have bl_9 := (u33).le_toInt; have bu_9 := (u33).toInt_lt
  have bl_10 := (u36).le_toInt; have bu_10 := (u36).toInt_lt
  have bl_11 := (((((i0.toUInt32 >>> ((1 : Int32) &&& 31).toUInt32).toInt32) &&& (3 : Int32)) % (3 : Int32)) + (1 : Int32)).le_toInt; have bu_11 := (((((i0.toUInt32 >>> ((1 : Int32) &&& 31).toUInt32).toInt32) &&& (3 : Int32)) % (3 : Int32)) + (1 : Int32)).toInt_lt
  have bl_12 := (v5 + (1 : Int32)).le_toInt; have bu_12 := (v5 + (1 : Int32)).toInt_lt
  have bl_13 := (u20 + (1 : Int32)).le_toInt; have bu_13 := (u20 + (1 : Int32)).toInt_lt
  have bl_14 := ((u20 + (1 : Int32)) + (1 : Int32)).le_toInt; have bu_14 := ((u20 + (1 : Int32)) + (1 : Int32)).toInt_lt
  have bl_15 := (u24 + (1 : Int32)).le_toInt; have bu_15 := (u24 + (1 : Int32)).toInt_lt
  have bl_16 := ((u27 + (1 : Int32)) + (1 : Int32)).le_toInt; have bu_16 := ((u27 + (1 : Int32)) + (1 : Int32)).toInt_lt
  have bl_17 := (u27 + (1 : Int32)).le_toInt; have bu_17 := (u27 + (1 : Int32)).toInt_lt
  have bl_18 := (u30 + (1 : Int32)).le_toInt; have bu_18 := (u30 + (1 : Int32)).toInt_lt
  have bl_19 := (u33 + (1 : Int32)).le_toInt; have bu_19 := (u33 + (1 : Int32)).toInt_lt
  try simp only [own_eqite, own_iteeq] at *
  try simp only [ne_eq, and_true, true_and, or_true, true_or, and_false, false_and, or_false, false_or, not_true_eq_false, not_false_eq_true, Int32.lt_iff_toInt_lt, Int64.lt_iff_toInt_lt, ← Int32.toInt_inj, ← Int64.toInt_inj, Int32.reduceToInt, Int64.reduceToInt] at *
  omega
set_option maxRecDepth 65536 in
set_option maxHeartbeats 40000000 in
theorem own_bad0 (i0 : Int32) (i1 : Int32) (i2 : Int32) (i3 : Int32) (u1 : Int32) (v3 : Int32) (v4 : Int32) (v5 : Int32) (v7 : Int32) (v9 : Int32) (v11 : Int32) (v13 : Int32) (v15 : Int32) (v17 : Int32) (u20 : Int32) (w22 : List Value) (u24 : Int32) (w26 : List Value) (u27 : Int32) (w29 : List Value) (u30 : Int32) (w32 : List Value) (u33 : Int32) (w35 : List Value) (u36 : Int32) (w38 : List Value) (u40 : Int32) (u42 : Int32) (u44 : Int32) (hu1 : u1 = (if (i0 &&& (1 : Int32)) = (0 : Int32) then (0 : Int32) else (1 : Int32))) (hv3 : v3 = (((((i0.toUInt32 >>> ((1 : Int32) &&& 31).toUInt32).toInt32) &&& (3 : Int32)) % (3 : Int32)) + (1 : Int32))) (hv4 : v4 = (((i0.toUInt32 >>> ((3 : Int32) &&& 31).toUInt32).toInt32) &&& (3 : Int32))) (hv5 : v5 = (((i0.toUInt32 >>> ((5 : Int32) &&& 31).toUInt32).toInt32) &&& (1 : Int32))) (hv7 : v7 = (f1 i1 (0 : Int32))) (hv9 : v9 = (f1 i1 (1 : Int32))) (hv11 : v11 = (f1 i1 (2 : Int32))) (hv13 : v13 = (f1 i1 (3 : Int32))) (hv15 : v15 = (f1 i1 (4 : Int32))) (hv17 : v17 = (f1 i1 (5 : Int32))) (hu20 : u20 = (if u1 = (0 : Int32) then v5 else (v5 + (1 : Int32)))) (hw22 : w22 = (if u1 = (0 : Int32) then [(.int (nar .byte (i2.toInt8.toInt32))), (.int (0 : Int32)), (.int (0 : Int32)), (.int (0 : Int32)), (.int (0 : Int32)), (.int (0 : Int32)), (.int (0 : Int32)), (.int (0 : Int32)), (.int (0 : Int32)), (.int (0 : Int32)), (.int (0 : Int32))] else ([(.int (nar .byte (i2.toInt8.toInt32))), (.int (0 : Int32)), (.int (0 : Int32)), (.int (0 : Int32)), (.int (0 : Int32)), (.int (0 : Int32)), (.int (0 : Int32)), (.int (0 : Int32)), (.int (0 : Int32)), (.int (0 : Int32)), (.int (0 : Int32))].set (v5).toNatClampNeg (.int (nar .byte (45 : Int32)))))) (hu24 : u24 = (if v3 < (2 : Int32) then (u20 + (1 : Int32)) else ((u20 + (1 : Int32)) + (1 : Int32)))) (hw26 : w26 = (if v3 < (2 : Int32) then (w22.set (u20).toNatClampNeg (.int (nar .byte (((48 : Int32) + v7).toInt8.toInt32)))) else ((w22.set (u20).toNatClampNeg (.int (nar .byte (((48 : Int32) + v7).toInt8.toInt32)))).set ((u20 + (1 : Int32))).toNatClampNeg (.int (nar .byte (((48 : Int32) + v9).toInt8.toInt32)))))) (hu27 : u27 = (if v3 < (3 : Int32) then u24 else (u24 + (1 : Int32)))) (hw29 : w29 = (if v3 < (3 : Int32) then w26 else (w26.set (u24).toNatClampNeg (.int (nar .byte (((48 : Int32) + v11).toInt8.toInt32)))))) (hu30 : u30 = (if v4 < (1 : Int32) then u27 else ((u27 + (1 : Int32)) + (1 : Int32)))) (hw32 : w32 = (if v4 < (1 : Int32) then w29 else ((w29.set (u27).toNatClampNeg (.int (nar .byte (46 : Int32)))).set ((u27 + (1 : Int32))).toNatClampNeg (.int (nar .byte (((48 : Int32) + v13).toInt8.toInt32)))))) (hu33 : u33 = (if v4 < (2 : Int32) then u30 else (u30 + (1 : Int32)))) (hw35 : w35 = (if v4 < (2 : Int32) then w32 else (w32.set (u30).toNatClampNeg (.int (nar .byte (((48 : Int32) + v15).toInt8.toInt32)))))) (hu36 : u36 = (if v4 < (3 : Int32) then u33 else (u33 + (1 : Int32)))) (hw38 : w38 = (if v4 < (3 : Int32) then w35 else (w35.set (u33).toNatClampNeg (.int (nar .byte (((48 : Int32) + v17).toInt8.toInt32)))))) (hu40 : u40 = (if v3 < (2 : Int32) then (0 : Int32) else (if v7 = (0 : Int32) then (1 : Int32) else (0 : Int32)))) (hu42 : u42 = (if v7 = (0 : Int32) then (if v3 < (2 : Int32) then (if v3 < (3 : Int32) then (if v4 < (1 : Int32) then (if v4 < (2 : Int32) then (if v4 < (3 : Int32) then (1 : Int32) else (if v17 = (0 : Int32) then (1 : Int32) else (0 : Int32))) else (if v15 = (0 : Int32) then (if v4 < (3 : Int32) then (1 : Int32) else (if v17 = (0 : Int32) then (1 : Int32) else (0 : Int32))) else (0 : Int32))) else (if v13 = (0 : Int32) then (if v4 < (2 : Int32) then (if v4 < (3 : Int32) then (1 : Int32) else (if v17 = (0 : Int32) then (1 : Int32) else (0 : Int32))) else (if v15 = (0 : Int32) then (if v4 < (3 : Int32) then (1 : Int32) else (if v17 = (0 : Int32) then (1 : Int32) else (0 : Int32))) else (0 : Int32))) else (0 : Int32))) else (if v11 = (0 : Int32) then (if v4 < (1 : Int32) then (if v4 < (2 : Int32) then (if v4 < (3 : Int32) then (1 : Int32) else (if v17 = (0 : Int32) then (1 : Int32) else (0 : Int32))) else (if v15 = (0 : Int32) then (if v4 < (3 : Int32) then (1 : Int32) else (if v17 = (0 : Int32) then (1 : Int32) else (0 : Int32))) else (0 : Int32))) else (if v13 = (0 : Int32) then (if v4 < (2 : Int32) then (if v4 < (3 : Int32) then (1 : Int32) else (if v17 = (0 : Int32) then (1 : Int32) else (0 : Int32))) else (if v15 = (0 : Int32) then (if v4 < (3 : Int32) then (1 : Int32) else (if v17 = (0 : Int32) then (1 : Int32) else (0 : Int32))) else (0 : Int32))) else (0 : Int32))) else (0 : Int32))) else (if v9 = (0 : Int32) then (if v3 < (3 : Int32) then (if v4 < (1 : Int32) then (if v4 < (2 : Int32) then (if v4 < (3 : Int32) then (1 : Int32) else (if v17 = (0 : Int32) then (1 : Int32) else (0 : Int32))) else (if v15 = (0 : Int32) then (if v4 < (3 : Int32) then (1 : Int32) else (if v17 = (0 : Int32) then (1 : Int32) else (0 : Int32))) else (0 : Int32))) else (if v13 = (0 : Int32) then (if v4 < (2 : Int32) then (if v4 < (3 : Int32) then (1 : Int32) else (if v17 = (0 : Int32) then (1 : Int32) else (0 : Int32))) else (if v15 = (0 : Int32) then (if v4 < (3 : Int32) then (1 : Int32) else (if v17 = (0 : Int32) then (1 : Int32) else (0 : Int32))) else (0 : Int32))) else (0 : Int32))) else (if v11 = (0 : Int32) then (if v4 < (1 : Int32) then (if v4 < (2 : Int32) then (if v4 < (3 : Int32) then (1 : Int32) else (if v17 = (0 : Int32) then (1 : Int32) else (0 : Int32))) else (if v15 = (0 : Int32) then (if v4 < (3 : Int32) then (1 : Int32) else (if v17 = (0 : Int32) then (1 : Int32) else (0 : Int32))) else (0 : Int32))) else (if v13 = (0 : Int32) then (if v4 < (2 : Int32) then (if v4 < (3 : Int32) then (1 : Int32) else (if v17 = (0 : Int32) then (1 : Int32) else (0 : Int32))) else (if v15 = (0 : Int32) then (if v4 < (3 : Int32) then (1 : Int32) else (if v17 = (0 : Int32) then (1 : Int32) else (0 : Int32))) else (0 : Int32))) else (0 : Int32))) else (0 : Int32))) else (0 : Int32))) else (0 : Int32))) (hu44 : u44 = (if u40 = (0 : Int32) then (if u1 = (0 : Int32) then (1 : Int32) else (if u42 = (0 : Int32) then (1 : Int32) else (0 : Int32))) else (0 : Int32))) (c368 : ¬ (plainF (fun j => own_byte ((w38.set (u36).toNatClampNeg (.int (nar .byte (i3.toInt8.toInt32)))).getD j.toNatClampNeg (.int (0 : Int32)))) v5 u36) = u44) : False := by
  have hb : 0 ≤ u1.toInt ∧ u1.toInt ≤ 1 ∧ 0 ≤ v3.toInt ∧ v3.toInt ≤ 3 ∧ 0 ≤ v4.toInt ∧ v4.toInt ≤ 3 ∧ 0 ≤ v5.toInt ∧ v5.toInt ≤ 1 := by
    clear c368 hu44 hu42 hu40 hw38 hu36 hw35 hu33 hw32 hu30 hw29 hu27 hw26 hu24 hw22 hu20 hv17 hv15 hv13 hv11 hv9 hv7
    have ca_0 := c_mask i0 (1 : Int32) 1 (by decide) (by decide)
    have ca_1 := c_iadd ((((i0.toUInt32 >>> ((1 : Int32) &&& 31).toUInt32).toInt32) &&& (3 : Int32)) % (3 : Int32)) (1 : Int32)
    have ca_2 := c_irem (((i0.toUInt32 >>> ((1 : Int32) &&& 31).toUInt32).toInt32) &&& (3 : Int32)) (3 : Int32) 3 rfl
    have ca_3 := c_mask ((i0.toUInt32 >>> ((1 : Int32) &&& 31).toUInt32).toInt32) (3 : Int32) 2 (by decide) (by decide)
    have ca_4 := c_iushr i0 1 1 (by decide) (by decide)
    have ca_5 := c_mask ((i0.toUInt32 >>> ((3 : Int32) &&& 31).toUInt32).toInt32) (3 : Int32) 2 (by decide) (by decide)
    have ca_6 := c_iushr i0 3 3 (by decide) (by decide)
    have ca_7 := c_mask ((i0.toUInt32 >>> ((5 : Int32) &&& 31).toUInt32).toInt32) (1 : Int32) 1 (by decide) (by decide)
    have ca_8 := c_iushr i0 5 5 (by decide) (by decide)
    have bl_0 := (i0).le_toInt; have bu_0 := (i0).toInt_lt
    have bl_1 := (u1).le_toInt; have bu_1 := (u1).toInt_lt
    have bl_2 := (v3).le_toInt; have bu_2 := (v3).toInt_lt
    have bl_3 := (v4).le_toInt; have bu_3 := (v4).toInt_lt
    have bl_4 := (v5).le_toInt; have bu_4 := (v5).toInt_lt
    have bl_5 := (((((i0.toUInt32 >>> ((1 : Int32) &&& 31).toUInt32).toInt32) &&& (3 : Int32)) % (3 : Int32)) + (1 : Int32)).le_toInt; have bu_5 := (((((i0.toUInt32 >>> ((1 : Int32) &&& 31).toUInt32).toInt32) &&& (3 : Int32)) % (3 : Int32)) + (1 : Int32)).toInt_lt
    try simp only [own_eqite, own_iteeq] at *
    try simp only [ne_eq, and_true, true_and, or_true, true_or, and_false, false_and, or_false, false_or, not_true_eq_false, not_false_eq_true, Int32.lt_iff_toInt_lt, Int64.lt_iff_toInt_lt, ← Int32.toInt_inj, ← Int64.toInt_inj, Int32.reduceToInt, Int64.reduceToInt] at *
    omega
  obtain ⟨b1, b2, b3, b4, b5, b6, b7, b8⟩ := hb
  have d0 := own_f1b i1 (0 : Int32); rw [← hv7] at d0
  obtain ⟨z0, hz0, ez0⟩ := own_zz v7
  have n0 : own_cl (own_byte (.int (nar .byte (((48 : Int32) + v7).toInt8.toInt32)))) = own_n z0 := own_dcl v7 (own_mem9 _ d0.1 d0.2) z0 hz0 ez0
  have d1 := own_f1b i1 (1 : Int32); rw [← hv9] at d1
  obtain ⟨z1, hz1, ez1⟩ := own_zz v9
  have n1 : own_cl (own_byte (.int (nar .byte (((48 : Int32) + v9).toInt8.toInt32)))) = own_n z1 := own_dcl v9 (own_mem9 _ d1.1 d1.2) z1 hz1 ez1
  have d2 := own_f1b i1 (2 : Int32); rw [← hv11] at d2
  obtain ⟨z2, hz2, ez2⟩ := own_zz v11
  have n2 : own_cl (own_byte (.int (nar .byte (((48 : Int32) + v11).toInt8.toInt32)))) = own_n z2 := own_dcl v11 (own_mem9 _ d2.1 d2.2) z2 hz2 ez2
  have d3 := own_f1b i1 (3 : Int32); rw [← hv13] at d3
  obtain ⟨z3, hz3, ez3⟩ := own_zz v13
  have n3 : own_cl (own_byte (.int (nar .byte (((48 : Int32) + v13).toInt8.toInt32)))) = own_n z3 := own_dcl v13 (own_mem9 _ d3.1 d3.2) z3 hz3 ez3
  have d4 := own_f1b i1 (4 : Int32); rw [← hv15] at d4
  obtain ⟨z4, hz4, ez4⟩ := own_zz v15
  have n4 : own_cl (own_byte (.int (nar .byte (((48 : Int32) + v15).toInt8.toInt32)))) = own_n z4 := own_dcl v15 (own_mem9 _ d4.1 d4.2) z4 hz4 ez4
  have d5 := own_f1b i1 (5 : Int32); rw [← hv17] at d5
  obtain ⟨z5, hz5, ez5⟩ := own_zz v17
  have n5 : own_cl (own_byte (.int (nar .byte (((48 : Int32) + v17).toInt8.toInt32)))) = own_n z5 := own_dcl v17 (own_mem9 _ d5.1 d5.2) z5 hz5 ez5
  clear hv7 hv9 hv11 hv13 hv15 hv17 hu1 hv3 hv4 hv5
  simp only [own_if ez0, own_if ez1, own_if ez2, own_if ez3, own_if ez4, own_if ez5] at hu40 hu42
  have K := own_bf u1 (own_mem1 _ b1 b2) v3 (own_mem3 _ b3 b4) v4 (own_mem3 _ b5 b6) v5 (own_mem1 _ b7 b8) z0 hz0 z1 hz1 z2 hz2 z3 hz3 z4 hz4 z5 hz5
  obtain ⟨c22, hc22⟩ : ∃ z, z = (if u1 = (0 : Int32) then ([9, 0, 0, 0, 0, 0, 0, 0, 0, 0, 0] : List Nat) else (([9, 0, 0, 0, 0, 0, 0, 0, 0, 0, 0] : List Nat).set (v5).toNatClampNeg 1)) := ⟨_, rfl⟩
  have R22 : own_rl c22 w22 := by
    rw [hc22, hw22]
    split
    all_goals (repeat (first | exact own_rl0 _ | exact R0 | refine own_rl_set ?_ ?_ | exact Or.inl rfl | exact Or.inr rfl | exact Or.inr n0.symm | exact Or.inr n1.symm | exact Or.inr n2.symm | exact Or.inr n3.symm | exact Or.inr n4.symm | exact Or.inr n5.symm))
  rw [own_E1, ← hu20, ← hc22] at K
  obtain ⟨c26, hc26⟩ : ∃ z, z = (if v3 < (2 : Int32) then (c22.set (u20).toNatClampNeg (own_n z0)) else ((c22.set (u20).toNatClampNeg (own_n z0)).set ((u20 + (1 : Int32))).toNatClampNeg (own_n z1))) := ⟨_, rfl⟩
  have R26 : own_rl c26 w26 := by
    rw [hc26, hw26]
    split
    all_goals (repeat (first | exact own_rl0 _ | exact R22 | refine own_rl_set ?_ ?_ | exact Or.inl rfl | exact Or.inr rfl | exact Or.inr n0.symm | exact Or.inr n1.symm | exact Or.inr n2.symm | exact Or.inr n3.symm | exact Or.inr n4.symm | exact Or.inr n5.symm))
  rw [own_E2, ← hu24, ← hc26] at K
  obtain ⟨c29, hc29⟩ : ∃ z, z = (if v3 < (3 : Int32) then c26 else (c26.set (u24).toNatClampNeg (own_n z2))) := ⟨_, rfl⟩
  have R29 : own_rl c29 w29 := by
    rw [hc29, hw29]
    split
    all_goals (repeat (first | exact own_rl0 _ | exact R26 | refine own_rl_set ?_ ?_ | exact Or.inl rfl | exact Or.inr rfl | exact Or.inr n0.symm | exact Or.inr n1.symm | exact Or.inr n2.symm | exact Or.inr n3.symm | exact Or.inr n4.symm | exact Or.inr n5.symm))
  rw [own_E3, ← hu27, ← hc29] at K
  obtain ⟨c32, hc32⟩ : ∃ z, z = (if v4 < (1 : Int32) then c29 else ((c29.set (u27).toNatClampNeg 2).set ((u27 + (1 : Int32))).toNatClampNeg (own_n z3))) := ⟨_, rfl⟩
  have R32 : own_rl c32 w32 := by
    rw [hc32, hw32]
    split
    all_goals (repeat (first | exact own_rl0 _ | exact R29 | refine own_rl_set ?_ ?_ | exact Or.inl rfl | exact Or.inr rfl | exact Or.inr n0.symm | exact Or.inr n1.symm | exact Or.inr n2.symm | exact Or.inr n3.symm | exact Or.inr n4.symm | exact Or.inr n5.symm))
  rw [own_E4, ← hu30, ← hc32] at K
  obtain ⟨c35, hc35⟩ : ∃ z, z = (if v4 < (2 : Int32) then c32 else (c32.set (u30).toNatClampNeg (own_n z4))) := ⟨_, rfl⟩
  have R35 : own_rl c35 w35 := by
    rw [hc35, hw35]
    split
    all_goals (repeat (first | exact own_rl0 _ | exact R32 | refine own_rl_set ?_ ?_ | exact Or.inl rfl | exact Or.inr rfl | exact Or.inr n0.symm | exact Or.inr n1.symm | exact Or.inr n2.symm | exact Or.inr n3.symm | exact Or.inr n4.symm | exact Or.inr n5.symm))
  rw [own_E5, ← hu33, ← hc35] at K
  obtain ⟨c38, hc38⟩ : ∃ z, z = (if v4 < (3 : Int32) then c35 else (c35.set (u33).toNatClampNeg (own_n z5))) := ⟨_, rfl⟩
  have R38 : own_rl c38 w38 := by
    rw [hc38, hw38]
    split
    all_goals (repeat (first | exact own_rl0 _ | exact R35 | refine own_rl_set ?_ ?_ | exact Or.inl rfl | exact Or.inr rfl | exact Or.inr n0.symm | exact Or.inr n1.symm | exact Or.inr n2.symm | exact Or.inr n3.symm | exact Or.inr n4.symm | exact Or.inr n5.symm))
  rw [own_E6, ← hu36, ← hc38] at K
  rw [own_E7, ← hu40, ← hu42, own_E8, ← hu44, Bool.and_eq_true, decide_eq_true_eq, decide_eq_true_eq] at K
  have R39 := own_rl_set (i := u36.toNatClampNeg) (x := 9) (y := .int (nar .byte (i3.toInt8.toInt32))) R38 (Or.inl rfl)
  rcases own_pE (fun j => own_byte ((w38.set (u36).toNatClampNeg (.int (nar .byte (i3.toInt8.toInt32)))).getD j.toNatClampNeg (.int (0 : Int32)))) (fun j => (c38.set (u36).toNatClampNeg 9).getD j.toNatClampNeg 0) (fun j => R39.2 _) v5 u36 with h | h
  · exact K.2 h
  · exact c368 (h.trans K.1)
theorem pn0 : plainName "com/example/exdate/exdate/ValuesIsPlainTextPinLaw" = true := by first | (simp [plainName, overriddenIn]; done) | decide +kernel
theorem ef0 (m : MethodId) (i0 : Int32) (i1 : Int32) (i2 : Int32) (i3 : Int32) : entryFrame m #[(.int i0), (.int i1), (.int i2), (.int i3)] maxLocals = mkF m 0 #[.val (.int i0), .val (.int i1), .val (.int i2), .val (.int i3), .unset, .unset, .unset, .unset, .unset, .unset, .unset, .unset, .unset, .unset, .unset, .unset, .unset, .unset, .unset, .unset, .unset] [] := by first | (simp [entryFrame, mkF, argsToLocals, Value.category, maxLocals]; done) | rfl
set_option maxRecDepth 65536 in
set_option maxHeartbeats 40000000 in
theorem rm0 (l : Launch) (Z : State) (a0 : Array Value) (hw : ∀ d ∈ tables_1, d.before a0 Z = true) (i0 : Int32) (i1 : Int32) (i2 : Int32) (i3 : Int32) (h0 : Heap) (n0 : Nat) (Z0 : n0 ≤ h0.size) :
    Ctr l Z x code maxLocals ret room_1 #[(.int i0), (.int i1), (.int i2), (.int i3)] h0 n0 (fun v _ => v = some (.int (1 : Int32))) := by
  refine Ctr.body (L := #[.val (.int i0), .val (.int i1), .val (.int i2), .val (.int i3), .unset, .unset, .unset, .unset, .unset, .unset, .unset, .unset, .unset, .unset, .unset, .unset, .unset, .unset, .unset, .unset, .unset]) (plainFor_of_name pn0) Z0 (fun m => ef0 m i0 i1 i2 i3) ?_
  intro p e F m below meth c T0 C0
  refine C0.iloadN at_0 rfl rfl ?_
  refine C0.iconst (1 : Int32) at_1 rfl rfl ?_
  refine C0.iand at_2 rfl ?_
  have J11 : ∀ (T2 : State) (u1 : Int32), Cx p l e room_1 m #[(.int i0), (.int i1), (.int i2), (.int i3)] below meth c Z x code maxLocals ret n0 false F T2 h0 0 0 → u1 = (if (i0 &&& (1 : Int32)) = (0 : Int32) then (0 : Int32) else (1 : Int32)) → Go p e below F n0 (fun v _ => v = some (.int (1 : Int32))) T2 (mkF m 11 #[.val (.int i0), .val (.int i1), .val (.int i2), .val (.int i3), .unset, .unset, .unset, .unset, .unset, .unset, .unset, .unset, .unset, .unset, .unset, .unset, .unset, .unset, .unset, .unset, .unset] [(.int u1)]) := by
    intro T2 u1 C2 hu1
    refine C2.istore at_11 rfl (L' := #[.val (.int i0), .val (.int i1), .val (.int i2), .val (.int i3), .val (.int u1), .unset, .unset, .unset, .unset, .unset, .unset, .unset, .unset, .unset, .unset, .unset, .unset, .unset, .unset, .unset, .unset]) rfl ?_
    refine C2.iloadN at_13 rfl rfl ?_
    refine C2.iconst (1 : Int32) at_14 rfl rfl ?_
    refine C2.iushr at_15 rfl ?_
    refine C2.iconst (3 : Int32) at_16 rfl rfl ?_
    refine C2.iand at_17 rfl ?_
    refine C2.iconst (3 : Int32) at_18 rfl rfl ?_
    refine C2.irem at_19 rfl (by decide) ?_
    refine C2.iconst (1 : Int32) at_20 rfl rfl ?_
    refine C2.iadd at_21 rfl ?_
    refine C2.istoreV (fun v => #[.val (.int i0), .val (.int i1), .val (.int i2), .val (.int i3), .val (.int u1), .val (.int v), .unset, .unset, .unset, .unset, .unset, .unset, .unset, .unset, .unset, .unset, .unset, .unset, .unset, .unset, .unset]) at_22 rfl (fun _ => rfl) (fun v3 hv3 => ?_)
    refine C2.iloadN at_24 rfl rfl ?_
    refine C2.iconst (3 : Int32) at_25 rfl rfl ?_
    refine C2.iushr at_26 rfl ?_
    refine C2.iconst (3 : Int32) at_27 rfl rfl ?_
    refine C2.iand at_28 rfl ?_
    refine C2.istoreV (fun v => #[.val (.int i0), .val (.int i1), .val (.int i2), .val (.int i3), .val (.int u1), .val (.int v3), .val (.int v), .unset, .unset, .unset, .unset, .unset, .unset, .unset, .unset, .unset, .unset, .unset, .unset, .unset, .unset]) at_29 rfl (fun _ => rfl) (fun v4 hv4 => ?_)
    refine C2.iloadN at_31 rfl rfl ?_
    refine C2.iconst (5 : Int32) at_32 rfl rfl ?_
    refine C2.iushr at_33 rfl ?_
    refine C2.iconst (1 : Int32) at_34 rfl rfl ?_
    refine C2.iand at_35 rfl ?_
    refine C2.istoreV (fun v => #[.val (.int i0), .val (.int i1), .val (.int i2), .val (.int i3), .val (.int u1), .val (.int v3), .val (.int v4), .val (.int v), .unset, .unset, .unset, .unset, .unset, .unset, .unset, .unset, .unset, .unset, .unset, .unset, .unset]) at_36 rfl (fun _ => rfl) (fun v5 hv5 => ?_)
    refine C2.iloadN at_38 rfl rfl ?_
    refine C2.iconst (0 : Int32) at_39 rfl rfl ?_
    refine C2.callS (hw _ (List.mem_of_getElem? (i := 0) rfl)) (hw _ (List.mem_of_getElem? (i := 1) rfl)) (hw _ (List.mem_of_getElem? (i := 2) rfl)) (hw _ (List.mem_of_getElem? (i := 3) rfl)) (by decide) (rm1 l Z a0 hw i1 (0 : Int32) h0 n0 C2.size ) (argsL := [(.int i1), (.int (0 : Int32))]) pd1 rfl 0 (by decide) (by decide) (by decide) (by decide) (rest := []) rfl rfl (Nat.le_of_eq rfl) at_40 rfl (fun v6 T6 h6 C6 qq6 => ?_)
    obtain ⟨rfl, hh6⟩ := qq6
    have hh6 := hh6.symm; subst hh6
    show Go p e below F n0 (fun v _ => v = some (.int (1 : Int32))) T6 (mkF m 43 #[.val (.int i0), .val (.int i1), .val (.int i2), .val (.int i3), .val (.int u1), .val (.int v3), .val (.int v4), .val (.int v5), .unset, .unset, .unset, .unset, .unset, .unset, .unset, .unset, .unset, .unset, .unset, .unset, .unset] [(.int (f1 i1 (0 : Int32)))])
    refine C6.istoreV (fun v => #[.val (.int i0), .val (.int i1), .val (.int i2), .val (.int i3), .val (.int u1), .val (.int v3), .val (.int v4), .val (.int v5), .val (.int v), .unset, .unset, .unset, .unset, .unset, .unset, .unset, .unset, .unset, .unset, .unset, .unset]) at_43 rfl (fun _ => rfl) (fun v7 hv7 => ?_)
    refine C6.iloadN at_45 rfl rfl ?_
    refine C6.iconst (1 : Int32) at_46 rfl rfl ?_
    refine C6.callS (hw _ (List.mem_of_getElem? (i := 0) rfl)) (hw _ (List.mem_of_getElem? (i := 1) rfl)) (hw _ (List.mem_of_getElem? (i := 2) rfl)) (hw _ (List.mem_of_getElem? (i := 3) rfl)) (by decide) (rm1 l Z a0 hw i1 (1 : Int32) h0 n0 C6.size ) (argsL := [(.int i1), (.int (1 : Int32))]) pd1 rfl 0 (by decide) (by decide) (by decide) (by decide) (rest := []) rfl rfl (Nat.le_of_eq rfl) at_47 rfl (fun v8 T8 h8 C8 qq8 => ?_)
    obtain ⟨rfl, hh8⟩ := qq8
    have hh8 := hh8.symm; subst hh8
    show Go p e below F n0 (fun v _ => v = some (.int (1 : Int32))) T8 (mkF m 50 #[.val (.int i0), .val (.int i1), .val (.int i2), .val (.int i3), .val (.int u1), .val (.int v3), .val (.int v4), .val (.int v5), .val (.int v7), .unset, .unset, .unset, .unset, .unset, .unset, .unset, .unset, .unset, .unset, .unset, .unset] [(.int (f1 i1 (1 : Int32)))])
    refine C8.istoreV (fun v => #[.val (.int i0), .val (.int i1), .val (.int i2), .val (.int i3), .val (.int u1), .val (.int v3), .val (.int v4), .val (.int v5), .val (.int v7), .val (.int v), .unset, .unset, .unset, .unset, .unset, .unset, .unset, .unset, .unset, .unset, .unset]) at_50 rfl (fun _ => rfl) (fun v9 hv9 => ?_)
    refine C8.iloadN at_52 rfl rfl ?_
    refine C8.iconst (2 : Int32) at_53 rfl rfl ?_
    refine C8.callS (hw _ (List.mem_of_getElem? (i := 0) rfl)) (hw _ (List.mem_of_getElem? (i := 1) rfl)) (hw _ (List.mem_of_getElem? (i := 2) rfl)) (hw _ (List.mem_of_getElem? (i := 3) rfl)) (by decide) (rm1 l Z a0 hw i1 (2 : Int32) h0 n0 C8.size ) (argsL := [(.int i1), (.int (2 : Int32))]) pd1 rfl 0 (by decide) (by decide) (by decide) (by decide) (rest := []) rfl rfl (Nat.le_of_eq rfl) at_54 rfl (fun v10 T10 h10 C10 qq10 => ?_)
    obtain ⟨rfl, hh10⟩ := qq10
    have hh10 := hh10.symm; subst hh10
    show Go p e below F n0 (fun v _ => v = some (.int (1 : Int32))) T10 (mkF m 57 #[.val (.int i0), .val (.int i1), .val (.int i2), .val (.int i3), .val (.int u1), .val (.int v3), .val (.int v4), .val (.int v5), .val (.int v7), .val (.int v9), .unset, .unset, .unset, .unset, .unset, .unset, .unset, .unset, .unset, .unset, .unset] [(.int (f1 i1 (2 : Int32)))])
    refine C10.istoreV (fun v => #[.val (.int i0), .val (.int i1), .val (.int i2), .val (.int i3), .val (.int u1), .val (.int v3), .val (.int v4), .val (.int v5), .val (.int v7), .val (.int v9), .val (.int v), .unset, .unset, .unset, .unset, .unset, .unset, .unset, .unset, .unset, .unset]) at_57 rfl (fun _ => rfl) (fun v11 hv11 => ?_)
    refine C10.iloadN at_59 rfl rfl ?_
    refine C10.iconst (3 : Int32) at_60 rfl rfl ?_
    refine C10.callS (hw _ (List.mem_of_getElem? (i := 0) rfl)) (hw _ (List.mem_of_getElem? (i := 1) rfl)) (hw _ (List.mem_of_getElem? (i := 2) rfl)) (hw _ (List.mem_of_getElem? (i := 3) rfl)) (by decide) (rm1 l Z a0 hw i1 (3 : Int32) h0 n0 C10.size ) (argsL := [(.int i1), (.int (3 : Int32))]) pd1 rfl 0 (by decide) (by decide) (by decide) (by decide) (rest := []) rfl rfl (Nat.le_of_eq rfl) at_61 rfl (fun v12 T12 h12 C12 qq12 => ?_)
    obtain ⟨rfl, hh12⟩ := qq12
    have hh12 := hh12.symm; subst hh12
    show Go p e below F n0 (fun v _ => v = some (.int (1 : Int32))) T12 (mkF m 64 #[.val (.int i0), .val (.int i1), .val (.int i2), .val (.int i3), .val (.int u1), .val (.int v3), .val (.int v4), .val (.int v5), .val (.int v7), .val (.int v9), .val (.int v11), .unset, .unset, .unset, .unset, .unset, .unset, .unset, .unset, .unset, .unset] [(.int (f1 i1 (3 : Int32)))])
    refine C12.istoreV (fun v => #[.val (.int i0), .val (.int i1), .val (.int i2), .val (.int i3), .val (.int u1), .val (.int v3), .val (.int v4), .val (.int v5), .val (.int v7), .val (.int v9), .val (.int v11), .val (.int v), .unset, .unset, .unset, .unset, .unset, .unset, .unset, .unset, .unset]) at_64 rfl (fun _ => rfl) (fun v13 hv13 => ?_)
    refine C12.iloadN at_66 rfl rfl ?_
    refine C12.iconst (4 : Int32) at_67 rfl rfl ?_
    refine C12.callS (hw _ (List.mem_of_getElem? (i := 0) rfl)) (hw _ (List.mem_of_getElem? (i := 1) rfl)) (hw _ (List.mem_of_getElem? (i := 2) rfl)) (hw _ (List.mem_of_getElem? (i := 3) rfl)) (by decide) (rm1 l Z a0 hw i1 (4 : Int32) h0 n0 C12.size ) (argsL := [(.int i1), (.int (4 : Int32))]) pd1 rfl 0 (by decide) (by decide) (by decide) (by decide) (rest := []) rfl rfl (Nat.le_of_eq rfl) at_68 rfl (fun v14 T14 h14 C14 qq14 => ?_)
    obtain ⟨rfl, hh14⟩ := qq14
    have hh14 := hh14.symm; subst hh14
    show Go p e below F n0 (fun v _ => v = some (.int (1 : Int32))) T14 (mkF m 71 #[.val (.int i0), .val (.int i1), .val (.int i2), .val (.int i3), .val (.int u1), .val (.int v3), .val (.int v4), .val (.int v5), .val (.int v7), .val (.int v9), .val (.int v11), .val (.int v13), .unset, .unset, .unset, .unset, .unset, .unset, .unset, .unset, .unset] [(.int (f1 i1 (4 : Int32)))])
    refine C14.istoreV (fun v => #[.val (.int i0), .val (.int i1), .val (.int i2), .val (.int i3), .val (.int u1), .val (.int v3), .val (.int v4), .val (.int v5), .val (.int v7), .val (.int v9), .val (.int v11), .val (.int v13), .val (.int v), .unset, .unset, .unset, .unset, .unset, .unset, .unset, .unset]) at_71 rfl (fun _ => rfl) (fun v15 hv15 => ?_)
    refine C14.iloadN at_73 rfl rfl ?_
    refine C14.iconst (5 : Int32) at_74 rfl rfl ?_
    refine C14.callS (hw _ (List.mem_of_getElem? (i := 0) rfl)) (hw _ (List.mem_of_getElem? (i := 1) rfl)) (hw _ (List.mem_of_getElem? (i := 2) rfl)) (hw _ (List.mem_of_getElem? (i := 3) rfl)) (by decide) (rm1 l Z a0 hw i1 (5 : Int32) h0 n0 C14.size ) (argsL := [(.int i1), (.int (5 : Int32))]) pd1 rfl 0 (by decide) (by decide) (by decide) (by decide) (rest := []) rfl rfl (Nat.le_of_eq rfl) at_75 rfl (fun v16 T16 h16 C16 qq16 => ?_)
    obtain ⟨rfl, hh16⟩ := qq16
    have hh16 := hh16.symm; subst hh16
    show Go p e below F n0 (fun v _ => v = some (.int (1 : Int32))) T16 (mkF m 78 #[.val (.int i0), .val (.int i1), .val (.int i2), .val (.int i3), .val (.int u1), .val (.int v3), .val (.int v4), .val (.int v5), .val (.int v7), .val (.int v9), .val (.int v11), .val (.int v13), .val (.int v15), .unset, .unset, .unset, .unset, .unset, .unset, .unset, .unset] [(.int (f1 i1 (5 : Int32)))])
    refine C16.istoreV (fun v => #[.val (.int i0), .val (.int i1), .val (.int i2), .val (.int i3), .val (.int u1), .val (.int v3), .val (.int v4), .val (.int v5), .val (.int v7), .val (.int v9), .val (.int v11), .val (.int v13), .val (.int v15), .val (.int v), .unset, .unset, .unset, .unset, .unset, .unset, .unset]) at_78 rfl (fun _ => rfl) (fun v17 hv17 => ?_)
    refine C16.bipush (11 : Int32) at_80 rfl rfl ?_
    refine C16.newarr (hw _ (List.mem_of_getElem? (i := 4) rfl)) 11 (by decide) (by decide) (by decide) (by decide) (by decide) at_82 rfl (fun T18 h18 b18 k18 C18 e18 g_b18 E18 V_b18 => ?_)
    have V_b18 : Arv Z h18 b18 k18 .byte (11 : Int32) [(.int (0 : Int32)), (.int (0 : Int32)), (.int (0 : Int32)), (.int (0 : Int32)), (.int (0 : Int32)), (.int (0 : Int32)), (.int (0 : Int32)), (.int (0 : Int32)), (.int (0 : Int32)), (.int (0 : Int32)), (.int (0 : Int32))] (.int (0 : Int32)) := V_b18
    refine C18.astore at_84 rfl rfl (L' := #[.val (.int i0), .val (.int i1), .val (.int i2), .val (.int i3), .val (.int u1), .val (.int v3), .val (.int v4), .val (.int v5), .val (.int v7), .val (.int v9), .val (.int v11), .val (.int v13), .val (.int v15), .val (.int v17), .val (.ref b18), .unset, .unset, .unset, .unset, .unset, .unset]) rfl ?_
    refine C18.aload at_86 rfl rfl rfl ?_
    refine C18.iconst (0 : Int32) at_88 rfl rfl ?_
    refine C18.iloadN at_89 rfl rfl ?_
    refine C18.i2b at_90 rfl ?_
    refine C18.bastore V_b18 ⟨by decide, by decide⟩ (Nat.le_of_ble_eq_true rfl) g_b18 at_91 rfl (fun T19 h19 C19 W19 Vn19 => ?_)
    have V_b18 : Arv Z h19 b18 k18 .byte (11 : Int32) [(.int (nar .byte (i2.toInt8.toInt32))), (.int (0 : Int32)), (.int (0 : Int32)), (.int (0 : Int32)), (.int (0 : Int32)), (.int (0 : Int32)), (.int (0 : Int32)), (.int (0 : Int32)), (.int (0 : Int32)), (.int (0 : Int32)), (.int (0 : Int32))] (.int (0 : Int32)) := Vn19
    refine C19.iload at_92 rfl rfl ?_
    refine C19.istore at_94 rfl (L' := #[.val (.int i0), .val (.int i1), .val (.int i2), .val (.int i3), .val (.int u1), .val (.int v3), .val (.int v4), .val (.int v5), .val (.int v7), .val (.int v9), .val (.int v11), .val (.int v13), .val (.int v15), .val (.int v17), .val (.ref b18), .val (.int v5), .unset, .unset, .unset, .unset, .unset]) rfl ?_
    refine C19.iload at_96 rfl rfl ?_
    refine C19.istore at_98 rfl (L' := #[.val (.int i0), .val (.int i1), .val (.int i2), .val (.int i3), .val (.int u1), .val (.int v3), .val (.int v4), .val (.int v5), .val (.int v7), .val (.int v9), .val (.int v11), .val (.int v13), .val (.int v15), .val (.int v17), .val (.ref b18), .val (.int v5), .val (.int v5), .unset, .unset, .unset, .unset]) rfl ?_
    refine C19.iload at_100 rfl rfl ?_
    have J115 : ∀ (T21 : State) (h21 : Heap) (u20 : Int32) (w22 : List Value), Cx p l e room_1 m #[(.int i0), (.int i1), (.int i2), (.int i3)] below meth c Z x code maxLocals ret n0 false F T21 h21 1 11 → u20 = (if u1 = (0 : Int32) then v5 else (v5 + (1 : Int32))) → w22 = (if u1 = (0 : Int32) then [(.int (nar .byte (i2.toInt8.toInt32))), (.int (0 : Int32)), (.int (0 : Int32)), (.int (0 : Int32)), (.int (0 : Int32)), (.int (0 : Int32)), (.int (0 : Int32)), (.int (0 : Int32)), (.int (0 : Int32)), (.int (0 : Int32)), (.int (0 : Int32))] else ([(.int (nar .byte (i2.toInt8.toInt32))), (.int (0 : Int32)), (.int (0 : Int32)), (.int (0 : Int32)), (.int (0 : Int32)), (.int (0 : Int32)), (.int (0 : Int32)), (.int (0 : Int32)), (.int (0 : Int32)), (.int (0 : Int32)), (.int (0 : Int32))].set (v5).toNatClampNeg (.int (nar .byte (45 : Int32))))) → (Arv Z h21 b18 k18 .byte (11 : Int32) w22 (.int (0 : Int32))) → Go p e below F n0 (fun v _ => v = some (.int (1 : Int32))) T21 (mkF m 115 #[.val (.int i0), .val (.int i1), .val (.int i2), .val (.int i3), .val (.int u1), .val (.int v3), .val (.int v4), .val (.int v5), .val (.int v7), .val (.int v9), .val (.int v11), .val (.int v13), .val (.int v15), .val (.int v17), .val (.ref b18), .val (.int u20), .val (.int v5), .unset, .unset, .unset, .unset] []) := by
      intro T21 h21 u20 w22 C21 hu20 hw22 V_b18
      refine C21.aload at_115 rfl rfl rfl ?_
      refine C21.iload at_117 rfl rfl ?_
      refine C21.bipush (48 : Int32) at_119 rfl rfl ?_
      refine C21.iload at_121 rfl rfl ?_
      refine C21.iadd at_123 rfl ?_
      refine C21.i2b at_124 rfl ?_
      refine C21.bastore V_b18 (own_pre2 i0 i1 i2 i3 u1 v3 v4 v5 v7 v9 v11 v13 v15 v17 u20 w22 hu1 hv3 hv4 hv5 hv7 hv9 hv11 hv13 hv15 hv17 hu20 hw22) (own_pre3 i0 i1 i2 i3 u1 v3 v4 v5 v7 v9 v11 v13 v15 v17 u20 w22 hu1 hv3 hv4 hv5 hv7 hv9 hv11 hv13 hv15 hv17 hu20 hw22) g_b18 at_125 rfl (fun T23 h23 C23 W23 Vn23 => ?_)
      have V_b18 : Arv Z h23 b18 k18 .byte (11 : Int32) (w22.set (u20).toNatClampNeg (.int (nar .byte (((48 : Int32) + v7).toInt8.toInt32)))) (.int (0 : Int32)) := Vn23
      refine C23.iinc (1 : Int32) at_126 rfl rfl rfl (L' := #[.val (.int i0), .val (.int i1), .val (.int i2), .val (.int i3), .val (.int u1), .val (.int v3), .val (.int v4), .val (.int v5), .val (.int v7), .val (.int v9), .val (.int v11), .val (.int v13), .val (.int v15), .val (.int v17), .val (.ref b18), .val (.int (u20 + (1 : Int32))), .val (.int v5), .unset, .unset, .unset, .unset]) rfl ?_
      refine C23.iload at_129 rfl rfl ?_
      refine C23.iconst (2 : Int32) at_131 rfl rfl ?_
      have J149 : ∀ (T25 : State) (h25 : Heap) (u24 : Int32) (w26 : List Value), Cx p l e room_1 m #[(.int i0), (.int i1), (.int i2), (.int i3)] below meth c Z x code maxLocals ret n0 false F T25 h25 1 11 → u24 = (if v3 < (2 : Int32) then (u20 + (1 : Int32)) else ((u20 + (1 : Int32)) + (1 : Int32))) → w26 = (if v3 < (2 : Int32) then (w22.set (u20).toNatClampNeg (.int (nar .byte (((48 : Int32) + v7).toInt8.toInt32)))) else ((w22.set (u20).toNatClampNeg (.int (nar .byte (((48 : Int32) + v7).toInt8.toInt32)))).set ((u20 + (1 : Int32))).toNatClampNeg (.int (nar .byte (((48 : Int32) + v9).toInt8.toInt32))))) → (Arv Z h25 b18 k18 .byte (11 : Int32) w26 (.int (0 : Int32))) → Go p e below F n0 (fun v _ => v = some (.int (1 : Int32))) T25 (mkF m 149 #[.val (.int i0), .val (.int i1), .val (.int i2), .val (.int i3), .val (.int u1), .val (.int v3), .val (.int v4), .val (.int v5), .val (.int v7), .val (.int v9), .val (.int v11), .val (.int v13), .val (.int v15), .val (.int v17), .val (.ref b18), .val (.int u24), .val (.int v5), .unset, .unset, .unset, .unset] []) := by
        intro T25 h25 u24 w26 C25 hu24 hw26 V_b18
        refine C25.iload at_149 rfl rfl ?_
        refine C25.iconst (3 : Int32) at_151 rfl rfl ?_
        have J169 : ∀ (T28 : State) (h28 : Heap) (u27 : Int32) (w29 : List Value), Cx p l e room_1 m #[(.int i0), (.int i1), (.int i2), (.int i3)] below meth c Z x code maxLocals ret n0 false F T28 h28 1 11 → u27 = (if v3 < (3 : Int32) then u24 else (u24 + (1 : Int32))) → w29 = (if v3 < (3 : Int32) then w26 else (w26.set (u24).toNatClampNeg (.int (nar .byte (((48 : Int32) + v11).toInt8.toInt32))))) → (Arv Z h28 b18 k18 .byte (11 : Int32) w29 (.int (0 : Int32))) → Go p e below F n0 (fun v _ => v = some (.int (1 : Int32))) T28 (mkF m 169 #[.val (.int i0), .val (.int i1), .val (.int i2), .val (.int i3), .val (.int u1), .val (.int v3), .val (.int v4), .val (.int v5), .val (.int v7), .val (.int v9), .val (.int v11), .val (.int v13), .val (.int v15), .val (.int v17), .val (.ref b18), .val (.int u27), .val (.int v5), .unset, .unset, .unset, .unset] []) := by
          intro T28 h28 u27 w29 C28 hu27 hw29 V_b18
          refine C28.iload at_169 rfl rfl ?_
          refine C28.iconst (1 : Int32) at_171 rfl rfl ?_
          have J199 : ∀ (T31 : State) (h31 : Heap) (u30 : Int32) (w32 : List Value), Cx p l e room_1 m #[(.int i0), (.int i1), (.int i2), (.int i3)] below meth c Z x code maxLocals ret n0 false F T31 h31 1 11 → u30 = (if v4 < (1 : Int32) then u27 else ((u27 + (1 : Int32)) + (1 : Int32))) → w32 = (if v4 < (1 : Int32) then w29 else ((w29.set (u27).toNatClampNeg (.int (nar .byte (46 : Int32)))).set ((u27 + (1 : Int32))).toNatClampNeg (.int (nar .byte (((48 : Int32) + v13).toInt8.toInt32))))) → (Arv Z h31 b18 k18 .byte (11 : Int32) w32 (.int (0 : Int32))) → Go p e below F n0 (fun v _ => v = some (.int (1 : Int32))) T31 (mkF m 199 #[.val (.int i0), .val (.int i1), .val (.int i2), .val (.int i3), .val (.int u1), .val (.int v3), .val (.int v4), .val (.int v5), .val (.int v7), .val (.int v9), .val (.int v11), .val (.int v13), .val (.int v15), .val (.int v17), .val (.ref b18), .val (.int u30), .val (.int v5), .unset, .unset, .unset, .unset] []) := by
            intro T31 h31 u30 w32 C31 hu30 hw32 V_b18
            refine C31.iload at_199 rfl rfl ?_
            refine C31.iconst (2 : Int32) at_201 rfl rfl ?_
            have J219 : ∀ (T34 : State) (h34 : Heap) (u33 : Int32) (w35 : List Value), Cx p l e room_1 m #[(.int i0), (.int i1), (.int i2), (.int i3)] below meth c Z x code maxLocals ret n0 false F T34 h34 1 11 → u33 = (if v4 < (2 : Int32) then u30 else (u30 + (1 : Int32))) → w35 = (if v4 < (2 : Int32) then w32 else (w32.set (u30).toNatClampNeg (.int (nar .byte (((48 : Int32) + v15).toInt8.toInt32))))) → (Arv Z h34 b18 k18 .byte (11 : Int32) w35 (.int (0 : Int32))) → Go p e below F n0 (fun v _ => v = some (.int (1 : Int32))) T34 (mkF m 219 #[.val (.int i0), .val (.int i1), .val (.int i2), .val (.int i3), .val (.int u1), .val (.int v3), .val (.int v4), .val (.int v5), .val (.int v7), .val (.int v9), .val (.int v11), .val (.int v13), .val (.int v15), .val (.int v17), .val (.ref b18), .val (.int u33), .val (.int v5), .unset, .unset, .unset, .unset] []) := by
              intro T34 h34 u33 w35 C34 hu33 hw35 V_b18
              refine C34.iload at_219 rfl rfl ?_
              refine C34.iconst (3 : Int32) at_221 rfl rfl ?_
              have J239 : ∀ (T37 : State) (h37 : Heap) (u36 : Int32) (w38 : List Value), Cx p l e room_1 m #[(.int i0), (.int i1), (.int i2), (.int i3)] below meth c Z x code maxLocals ret n0 false F T37 h37 1 11 → u36 = (if v4 < (3 : Int32) then u33 else (u33 + (1 : Int32))) → w38 = (if v4 < (3 : Int32) then w35 else (w35.set (u33).toNatClampNeg (.int (nar .byte (((48 : Int32) + v17).toInt8.toInt32))))) → (Arv Z h37 b18 k18 .byte (11 : Int32) w38 (.int (0 : Int32))) → Go p e below F n0 (fun v _ => v = some (.int (1 : Int32))) T37 (mkF m 239 #[.val (.int i0), .val (.int i1), .val (.int i2), .val (.int i3), .val (.int u1), .val (.int v3), .val (.int v4), .val (.int v5), .val (.int v7), .val (.int v9), .val (.int v11), .val (.int v13), .val (.int v15), .val (.int v17), .val (.ref b18), .val (.int u36), .val (.int v5), .unset, .unset, .unset, .unset] []) := by
                intro T37 h37 u36 w38 C37 hu36 hw38 V_b18
                refine C37.iload at_239 rfl rfl ?_
                refine C37.istore at_241 rfl (L' := #[.val (.int i0), .val (.int i1), .val (.int i2), .val (.int i3), .val (.int u1), .val (.int v3), .val (.int v4), .val (.int v5), .val (.int v7), .val (.int v9), .val (.int v11), .val (.int v13), .val (.int v15), .val (.int v17), .val (.ref b18), .val (.int u36), .val (.int v5), .val (.int u36), .unset, .unset, .unset]) rfl ?_
                refine C37.aload at_243 rfl rfl rfl ?_
                refine C37.iload at_245 rfl rfl ?_
                refine C37.iloadN at_247 rfl rfl ?_
                refine C37.i2b at_248 rfl ?_
                refine C37.bastore V_b18 (own_pre16 i0 i1 i2 i3 u1 v3 v4 v5 v7 v9 v11 v13 v15 v17 u20 w22 u24 w26 u27 w29 u30 w32 u33 w35 u36 w38 hu1 hv3 hv4 hv5 hv7 hv9 hv11 hv13 hv15 hv17 hu20 hw22 hu24 hw26 hu27 hw29 hu30 hw32 hu33 hw35 hu36 hw38) (own_pre17 i0 i1 i2 i3 u1 v3 v4 v5 v7 v9 v11 v13 v15 v17 u20 w22 u24 w26 u27 w29 u30 w32 u33 w35 u36 w38 hu1 hv3 hv4 hv5 hv7 hv9 hv11 hv13 hv15 hv17 hu20 hw22 hu24 hw26 hu27 hw29 hu30 hw32 hu33 hw35 hu36 hw38) g_b18 at_249 rfl (fun T39 h39 C39 W39 Vn39 => ?_)
                have V_b18 : Arv Z h39 b18 k18 .byte (11 : Int32) (w38.set (u36).toNatClampNeg (.int (nar .byte (i3.toInt8.toInt32)))) (.int (0 : Int32)) := Vn39
                refine C39.iload at_250 rfl rfl ?_
                refine C39.iconst (2 : Int32) at_252 rfl rfl ?_
                have J266 : ∀ (T41 : State) (u40 : Int32), Cx p l e room_1 m #[(.int i0), (.int i1), (.int i2), (.int i3)] below meth c Z x code maxLocals ret n0 false F T41 h39 1 11 → u40 = (if v3 < (2 : Int32) then (0 : Int32) else (if v7 = (0 : Int32) then (1 : Int32) else (0 : Int32))) → Go p e below F n0 (fun v _ => v = some (.int (1 : Int32))) T41 (mkF m 266 #[.val (.int i0), .val (.int i1), .val (.int i2), .val (.int i3), .val (.int u1), .val (.int v3), .val (.int v4), .val (.int v5), .val (.int v7), .val (.int v9), .val (.int v11), .val (.int v13), .val (.int v15), .val (.int v17), .val (.ref b18), .val (.int u36), .val (.int v5), .val (.int u36), .unset, .unset, .unset] [(.int u40)]) := by
                  intro T41 u40 C41 hu40
                  refine C41.istore at_266 rfl (L' := #[.val (.int i0), .val (.int i1), .val (.int i2), .val (.int i3), .val (.int u1), .val (.int v3), .val (.int v4), .val (.int v5), .val (.int v7), .val (.int v9), .val (.int v11), .val (.int v13), .val (.int v15), .val (.int v17), .val (.ref b18), .val (.int u36), .val (.int v5), .val (.int u36), .val (.int u40), .unset, .unset]) rfl ?_
                  refine C41.iload at_268 rfl rfl ?_
                  have J333 : ∀ (T43 : State) (u42 : Int32), Cx p l e room_1 m #[(.int i0), (.int i1), (.int i2), (.int i3)] below meth c Z x code maxLocals ret n0 false F T43 h39 1 11 → u42 = (if v7 = (0 : Int32) then (if v3 < (2 : Int32) then (if v3 < (3 : Int32) then (if v4 < (1 : Int32) then (if v4 < (2 : Int32) then (if v4 < (3 : Int32) then (1 : Int32) else (if v17 = (0 : Int32) then (1 : Int32) else (0 : Int32))) else (if v15 = (0 : Int32) then (if v4 < (3 : Int32) then (1 : Int32) else (if v17 = (0 : Int32) then (1 : Int32) else (0 : Int32))) else (0 : Int32))) else (if v13 = (0 : Int32) then (if v4 < (2 : Int32) then (if v4 < (3 : Int32) then (1 : Int32) else (if v17 = (0 : Int32) then (1 : Int32) else (0 : Int32))) else (if v15 = (0 : Int32) then (if v4 < (3 : Int32) then (1 : Int32) else (if v17 = (0 : Int32) then (1 : Int32) else (0 : Int32))) else (0 : Int32))) else (0 : Int32))) else (if v11 = (0 : Int32) then (if v4 < (1 : Int32) then (if v4 < (2 : Int32) then (if v4 < (3 : Int32) then (1 : Int32) else (if v17 = (0 : Int32) then (1 : Int32) else (0 : Int32))) else (if v15 = (0 : Int32) then (if v4 < (3 : Int32) then (1 : Int32) else (if v17 = (0 : Int32) then (1 : Int32) else (0 : Int32))) else (0 : Int32))) else (if v13 = (0 : Int32) then (if v4 < (2 : Int32) then (if v4 < (3 : Int32) then (1 : Int32) else (if v17 = (0 : Int32) then (1 : Int32) else (0 : Int32))) else (if v15 = (0 : Int32) then (if v4 < (3 : Int32) then (1 : Int32) else (if v17 = (0 : Int32) then (1 : Int32) else (0 : Int32))) else (0 : Int32))) else (0 : Int32))) else (0 : Int32))) else (if v9 = (0 : Int32) then (if v3 < (3 : Int32) then (if v4 < (1 : Int32) then (if v4 < (2 : Int32) then (if v4 < (3 : Int32) then (1 : Int32) else (if v17 = (0 : Int32) then (1 : Int32) else (0 : Int32))) else (if v15 = (0 : Int32) then (if v4 < (3 : Int32) then (1 : Int32) else (if v17 = (0 : Int32) then (1 : Int32) else (0 : Int32))) else (0 : Int32))) else (if v13 = (0 : Int32) then (if v4 < (2 : Int32) then (if v4 < (3 : Int32) then (1 : Int32) else (if v17 = (0 : Int32) then (1 : Int32) else (0 : Int32))) else (if v15 = (0 : Int32) then (if v4 < (3 : Int32) then (1 : Int32) else (if v17 = (0 : Int32) then (1 : Int32) else (0 : Int32))) else (0 : Int32))) else (0 : Int32))) else (if v11 = (0 : Int32) then (if v4 < (1 : Int32) then (if v4 < (2 : Int32) then (if v4 < (3 : Int32) then (1 : Int32) else (if v17 = (0 : Int32) then (1 : Int32) else (0 : Int32))) else (if v15 = (0 : Int32) then (if v4 < (3 : Int32) then (1 : Int32) else (if v17 = (0 : Int32) then (1 : Int32) else (0 : Int32))) else (0 : Int32))) else (if v13 = (0 : Int32) then (if v4 < (2 : Int32) then (if v4 < (3 : Int32) then (1 : Int32) else (if v17 = (0 : Int32) then (1 : Int32) else (0 : Int32))) else (if v15 = (0 : Int32) then (if v4 < (3 : Int32) then (1 : Int32) else (if v17 = (0 : Int32) then (1 : Int32) else (0 : Int32))) else (0 : Int32))) else (0 : Int32))) else (0 : Int32))) else (0 : Int32))) else (0 : Int32)) → Go p e below F n0 (fun v _ => v = some (.int (1 : Int32))) T43 (mkF m 333 #[.val (.int i0), .val (.int i1), .val (.int i2), .val (.int i3), .val (.int u1), .val (.int v3), .val (.int v4), .val (.int v5), .val (.int v7), .val (.int v9), .val (.int v11), .val (.int v13), .val (.int v15), .val (.int v17), .val (.ref b18), .val (.int u36), .val (.int v5), .val (.int u36), .val (.int u40), .unset, .unset] [(.int u42)]) := by
                    intro T43 u42 C43 hu42
                    refine C43.istore at_333 rfl (L' := #[.val (.int i0), .val (.int i1), .val (.int i2), .val (.int i3), .val (.int u1), .val (.int v3), .val (.int v4), .val (.int v5), .val (.int v7), .val (.int v9), .val (.int v11), .val (.int v13), .val (.int v15), .val (.int v17), .val (.ref b18), .val (.int u36), .val (.int v5), .val (.int u36), .val (.int u40), .val (.int u42), .unset]) rfl ?_
                    refine C43.iload at_335 rfl rfl ?_
                    have J355 : ∀ (T45 : State) (u44 : Int32), Cx p l e room_1 m #[(.int i0), (.int i1), (.int i2), (.int i3)] below meth c Z x code maxLocals ret n0 false F T45 h39 1 11 → u44 = (if u40 = (0 : Int32) then (if u1 = (0 : Int32) then (1 : Int32) else (if u42 = (0 : Int32) then (1 : Int32) else (0 : Int32))) else (0 : Int32)) → Go p e below F n0 (fun v _ => v = some (.int (1 : Int32))) T45 (mkF m 355 #[.val (.int i0), .val (.int i1), .val (.int i2), .val (.int i3), .val (.int u1), .val (.int v3), .val (.int v4), .val (.int v5), .val (.int v7), .val (.int v9), .val (.int v11), .val (.int v13), .val (.int v15), .val (.int v17), .val (.ref b18), .val (.int u36), .val (.int v5), .val (.int u36), .val (.int u40), .val (.int u42), .unset] [(.int u44)]) := by
                      intro T45 u44 C45 hu44
                      refine C45.istore at_355 rfl (L' := #[.val (.int i0), .val (.int i1), .val (.int i2), .val (.int i3), .val (.int u1), .val (.int v3), .val (.int v4), .val (.int v5), .val (.int v7), .val (.int v9), .val (.int v11), .val (.int v13), .val (.int v15), .val (.int v17), .val (.ref b18), .val (.int u36), .val (.int v5), .val (.int u36), .val (.int u40), .val (.int u42), .val (.int u44)]) rfl ?_
                      refine C45.aload at_357 rfl rfl rfl ?_
                      refine C45.iload at_359 rfl rfl ?_
                      refine C45.iload at_361 rfl rfl ?_
                      refine C45.callS (hw _ (List.mem_of_getElem? (i := 5) rfl)) (hw _ (List.mem_of_getElem? (i := 6) rfl)) (hw _ (List.mem_of_getElem? (i := 7) rfl)) (hw _ (List.mem_of_getElem? (i := 8) rfl)) (by decide) (rm2 l Z a0 hw b18 v5 u36 k18 (11 : Int32) (w38.set (u36).toNatClampNeg (.int (nar .byte (i3.toInt8.toInt32)))) (.int (0 : Int32)) (fun j => own_byte ((w38.set (u36).toNatClampNeg (.int (nar .byte (i3.toInt8.toInt32)))).getD j.toNatClampNeg (.int (0 : Int32)))) h39 n0 C45.size V_b18 (own_hg V_b18) (own_pre18 i0 i1 i2 i3 u1 v3 v4 v5 v7 v9 v11 v13 v15 v17 u20 w22 u24 w26 u27 w29 u30 w32 u33 w35 u36 w38 u40 u42 u44 hu1 hv3 hv4 hv5 hv7 hv9 hv11 hv13 hv15 hv17 hu20 hw22 hu24 hw26 hu27 hw29 hu30 hw32 hu33 hw35 hu36 hw38 hu40 hu42 hu44) (own_pre19 i0 i1 i2 i3 u1 v3 v4 v5 v7 v9 v11 v13 v15 v17 u20 w22 u24 w26 u27 w29 u30 w32 u33 w35 u36 w38 u40 u42 u44 hu1 hv3 hv4 hv5 hv7 hv9 hv11 hv13 hv15 hv17 hu20 hw22 hu24 hw26 hu27 hw29 hu30 hw32 hu33 hw35 hu36 hw38 hu40 hu42 hu44) (by decide) (own_pre20 i0 i1 i2 i3 u1 v3 v4 v5 v7 v9 v11 v13 v15 v17 u20 w22 u24 w26 u27 w29 u30 w32 u33 w35 u36 w38 u40 u42 u44 hu1 hv3 hv4 hv5 hv7 hv9 hv11 hv13 hv15 hv17 hu20 hw22 hu24 hw26 hu27 hw29 hu30 hw32 hu33 hw35 hu36 hw38 hu40 hu42 hu44)) (argsL := [(.ref b18), (.int v5), (.int u36)]) pd2 rfl 0 (by decide) (by decide) (by decide) (by decide) (rest := []) rfl rfl (Nat.le_of_eq rfl) at_363 rfl (fun v46 T46 h46 C46 qq46 => ?_)
                      obtain ⟨rfl, hh46⟩ := qq46
                      have hh46 := hh46.symm; subst hh46
                      show Go p e below F n0 (fun v _ => v = some (.int (1 : Int32))) T46 (mkF m 366 #[.val (.int i0), .val (.int i1), .val (.int i2), .val (.int i3), .val (.int u1), .val (.int v3), .val (.int v4), .val (.int v5), .val (.int v7), .val (.int v9), .val (.int v11), .val (.int v13), .val (.int v15), .val (.int v17), .val (.ref b18), .val (.int u36), .val (.int v5), .val (.int u36), .val (.int u40), .val (.int u42), .val (.int u44)] [(.int (plainF (fun j => own_byte ((w38.set (u36).toNatClampNeg (.int (nar .byte (i3.toInt8.toInt32)))).getD j.toNatClampNeg (.int (0 : Int32)))) v5 u36))])
                      refine C46.iload at_366 rfl rfl ?_
                      refine C46.icmp_ne at_368 (by decide) (by decide : _ = 375) rfl (fun c368 => ?_) (fun c368 => ?_)
                      · refine C46.iconst (0 : Int32) at_375 rfl rfl ?_
                        exact (own_bad0 i0 i1 i2 i3 u1 v3 v4 v5 v7 v9 v11 v13 v15 v17 u20 w22 u24 w26 u27 w29 u30 w32 u33 w35 u36 w38 u40 u42 u44 hu1 hv3 hv4 hv5 hv7 hv9 hv11 hv13 hv15 hv17 hu20 hw22 hu24 hw26 hu27 hw29 hu30 hw32 hu33 hw35 hu36 hw38 hu40 hu42 hu44 c368).elim
                      · refine C46.iconst (1 : Int32) at_371 rfl rfl ?_
                        refine C46.goto at_372 (by decide) (by decide : _ = 376) ?_
                        exact C46.retN (t := .boolean) at_376 rfl (by simp) (by decide) (by decide) (w := (1 : Int32)) rfl rfl
                    refine C43.if_ne at_337 (by decide) (by decide : _ = 354) rfl (fun c337 => ?_) (fun c337 => ?_)
                    · refine C43.iconst (0 : Int32) at_354 rfl rfl ?_
                      exact J355 _ (0 : Int32) C43 (by simp only [if_neg c337])
                    · refine C43.iload at_340 rfl rfl ?_
                      refine C43.if_eq at_342 (by decide) (by decide : _ = 350) rfl (fun c342 => ?_) (fun c342 => ?_)
                      · refine C43.iconst (1 : Int32) at_350 rfl rfl ?_
                        refine C43.goto at_351 (by decide) (by decide : _ = 355) ?_
                        exact J355 _ (1 : Int32) C43 (by simp only [if_pos c337, if_pos c342])
                      · refine C43.iload at_345 rfl rfl ?_
                        refine C43.if_ne at_347 (by decide) (by decide : _ = 354) rfl (fun c347 => ?_) (fun c347 => ?_)
                        · refine C43.iconst (0 : Int32) at_354 rfl rfl ?_
                          exact J355 _ (0 : Int32) C43 (by simp only [if_pos c337, if_neg c342, if_neg c347])
                        · refine C43.iconst (1 : Int32) at_350 rfl rfl ?_
                          refine C43.goto at_351 (by decide) (by decide : _ = 355) ?_
                          exact J355 _ (1 : Int32) C43 (by simp only [if_pos c337, if_neg c342, if_pos c347])
                  refine C41.if_ne at_270 (by decide) (by decide : _ = 332) rfl (fun c270 => ?_) (fun c270 => ?_)
                  · refine C41.iconst (0 : Int32) at_332 rfl rfl ?_
                    exact J333 _ (0 : Int32) C41 (by simp only [if_neg c270])
                  · refine C41.iload at_273 rfl rfl ?_
                    refine C41.iconst (2 : Int32) at_275 rfl rfl ?_
                    refine C41.icmp_lt at_276 (by decide) (by decide : _ = 284) rfl (fun c276 => ?_) (fun c276 => ?_)
                    · refine C41.iload at_284 rfl rfl ?_
                      refine C41.iconst (3 : Int32) at_286 rfl rfl ?_
                      refine C41.icmp_lt at_287 (by decide) (by decide : _ = 295) rfl (fun c287 => ?_) (fun c287 => ?_)
                      · refine C41.iload at_295 rfl rfl ?_
                        refine C41.iconst (1 : Int32) at_297 rfl rfl ?_
                        refine C41.icmp_lt at_298 (by decide) (by decide : _ = 306) rfl (fun c298 => ?_) (fun c298 => ?_)
                        · refine C41.iload at_306 rfl rfl ?_
                          refine C41.iconst (2 : Int32) at_308 rfl rfl ?_
                          refine C41.icmp_lt at_309 (by decide) (by decide : _ = 317) rfl (fun c309 => ?_) (fun c309 => ?_)
                          · refine C41.iload at_317 rfl rfl ?_
                            refine C41.iconst (3 : Int32) at_319 rfl rfl ?_
                            refine C41.icmp_lt at_320 (by decide) (by decide : _ = 328) rfl (fun c320 => ?_) (fun c320 => ?_)
                            · refine C41.iconst (1 : Int32) at_328 rfl rfl ?_
                              refine C41.goto at_329 (by decide) (by decide : _ = 333) ?_
                              exact J333 _ (1 : Int32) C41 (by simp only [if_pos c270, if_pos c276, if_pos c287, if_pos c298, if_pos c309, if_pos c320])
                            · refine C41.iload at_323 rfl rfl ?_
                              refine C41.if_ne at_325 (by decide) (by decide : _ = 332) rfl (fun c325 => ?_) (fun c325 => ?_)
                              · refine C41.iconst (0 : Int32) at_332 rfl rfl ?_
                                exact J333 _ (0 : Int32) C41 (by simp only [if_pos c270, if_pos c276, if_pos c287, if_pos c298, if_pos c309, if_neg c320, if_neg c325])
                              · refine C41.iconst (1 : Int32) at_328 rfl rfl ?_
                                refine C41.goto at_329 (by decide) (by decide : _ = 333) ?_
                                exact J333 _ (1 : Int32) C41 (by simp only [if_pos c270, if_pos c276, if_pos c287, if_pos c298, if_pos c309, if_neg c320, if_pos c325])
                          · refine C41.iload at_312 rfl rfl ?_
                            refine C41.if_ne at_314 (by decide) (by decide : _ = 332) rfl (fun c314 => ?_) (fun c314 => ?_)
                            · refine C41.iconst (0 : Int32) at_332 rfl rfl ?_
                              exact J333 _ (0 : Int32) C41 (by simp only [if_pos c270, if_pos c276, if_pos c287, if_pos c298, if_neg c309, if_neg c314])
                            · refine C41.iload at_317 rfl rfl ?_
                              refine C41.iconst (3 : Int32) at_319 rfl rfl ?_
                              refine C41.icmp_lt at_320 (by decide) (by decide : _ = 328) rfl (fun c320 => ?_) (fun c320 => ?_)
                              · refine C41.iconst (1 : Int32) at_328 rfl rfl ?_
                                refine C41.goto at_329 (by decide) (by decide : _ = 333) ?_
                                exact J333 _ (1 : Int32) C41 (by simp only [if_pos c270, if_pos c276, if_pos c287, if_pos c298, if_neg c309, if_pos c314, if_pos c320])
                              · refine C41.iload at_323 rfl rfl ?_
                                refine C41.if_ne at_325 (by decide) (by decide : _ = 332) rfl (fun c325 => ?_) (fun c325 => ?_)
                                · refine C41.iconst (0 : Int32) at_332 rfl rfl ?_
                                  exact J333 _ (0 : Int32) C41 (by simp only [if_pos c270, if_pos c276, if_pos c287, if_pos c298, if_neg c309, if_pos c314, if_neg c320, if_neg c325])
                                · refine C41.iconst (1 : Int32) at_328 rfl rfl ?_
                                  refine C41.goto at_329 (by decide) (by decide : _ = 333) ?_
                                  exact J333 _ (1 : Int32) C41 (by simp only [if_pos c270, if_pos c276, if_pos c287, if_pos c298, if_neg c309, if_pos c314, if_neg c320, if_pos c325])
                        · refine C41.iload at_301 rfl rfl ?_
                          refine C41.if_ne at_303 (by decide) (by decide : _ = 332) rfl (fun c303 => ?_) (fun c303 => ?_)
                          · refine C41.iconst (0 : Int32) at_332 rfl rfl ?_
                            exact J333 _ (0 : Int32) C41 (by simp only [if_pos c270, if_pos c276, if_pos c287, if_neg c298, if_neg c303])
                          · refine C41.iload at_306 rfl rfl ?_
                            refine C41.iconst (2 : Int32) at_308 rfl rfl ?_
                            refine C41.icmp_lt at_309 (by decide) (by decide : _ = 317) rfl (fun c309 => ?_) (fun c309 => ?_)
                            · refine C41.iload at_317 rfl rfl ?_
                              refine C41.iconst (3 : Int32) at_319 rfl rfl ?_
                              refine C41.icmp_lt at_320 (by decide) (by decide : _ = 328) rfl (fun c320 => ?_) (fun c320 => ?_)
                              · refine C41.iconst (1 : Int32) at_328 rfl rfl ?_
                                refine C41.goto at_329 (by decide) (by decide : _ = 333) ?_
                                exact J333 _ (1 : Int32) C41 (by simp only [if_pos c270, if_pos c276, if_pos c287, if_neg c298, if_pos c303, if_pos c309, if_pos c320])
                              · refine C41.iload at_323 rfl rfl ?_
                                refine C41.if_ne at_325 (by decide) (by decide : _ = 332) rfl (fun c325 => ?_) (fun c325 => ?_)
                                · refine C41.iconst (0 : Int32) at_332 rfl rfl ?_
                                  exact J333 _ (0 : Int32) C41 (by simp only [if_pos c270, if_pos c276, if_pos c287, if_neg c298, if_pos c303, if_pos c309, if_neg c320, if_neg c325])
                                · refine C41.iconst (1 : Int32) at_328 rfl rfl ?_
                                  refine C41.goto at_329 (by decide) (by decide : _ = 333) ?_
                                  exact J333 _ (1 : Int32) C41 (by simp only [if_pos c270, if_pos c276, if_pos c287, if_neg c298, if_pos c303, if_pos c309, if_neg c320, if_pos c325])
                            · refine C41.iload at_312 rfl rfl ?_
                              refine C41.if_ne at_314 (by decide) (by decide : _ = 332) rfl (fun c314 => ?_) (fun c314 => ?_)
                              · refine C41.iconst (0 : Int32) at_332 rfl rfl ?_
                                exact J333 _ (0 : Int32) C41 (by simp only [if_pos c270, if_pos c276, if_pos c287, if_neg c298, if_pos c303, if_neg c309, if_neg c314])
                              · refine C41.iload at_317 rfl rfl ?_
                                refine C41.iconst (3 : Int32) at_319 rfl rfl ?_
                                refine C41.icmp_lt at_320 (by decide) (by decide : _ = 328) rfl (fun c320 => ?_) (fun c320 => ?_)
                                · refine C41.iconst (1 : Int32) at_328 rfl rfl ?_
                                  refine C41.goto at_329 (by decide) (by decide : _ = 333) ?_
                                  exact J333 _ (1 : Int32) C41 (by simp only [if_pos c270, if_pos c276, if_pos c287, if_neg c298, if_pos c303, if_neg c309, if_pos c314, if_pos c320])
                                · refine C41.iload at_323 rfl rfl ?_
                                  refine C41.if_ne at_325 (by decide) (by decide : _ = 332) rfl (fun c325 => ?_) (fun c325 => ?_)
                                  · refine C41.iconst (0 : Int32) at_332 rfl rfl ?_
                                    exact J333 _ (0 : Int32) C41 (by simp only [if_pos c270, if_pos c276, if_pos c287, if_neg c298, if_pos c303, if_neg c309, if_pos c314, if_neg c320, if_neg c325])
                                  · refine C41.iconst (1 : Int32) at_328 rfl rfl ?_
                                    refine C41.goto at_329 (by decide) (by decide : _ = 333) ?_
                                    exact J333 _ (1 : Int32) C41 (by simp only [if_pos c270, if_pos c276, if_pos c287, if_neg c298, if_pos c303, if_neg c309, if_pos c314, if_neg c320, if_pos c325])
                      · refine C41.iload at_290 rfl rfl ?_
                        refine C41.if_ne at_292 (by decide) (by decide : _ = 332) rfl (fun c292 => ?_) (fun c292 => ?_)
                        · refine C41.iconst (0 : Int32) at_332 rfl rfl ?_
                          exact J333 _ (0 : Int32) C41 (by simp only [if_pos c270, if_pos c276, if_neg c287, if_neg c292])
                        · refine C41.iload at_295 rfl rfl ?_
                          refine C41.iconst (1 : Int32) at_297 rfl rfl ?_
                          refine C41.icmp_lt at_298 (by decide) (by decide : _ = 306) rfl (fun c298 => ?_) (fun c298 => ?_)
                          · refine C41.iload at_306 rfl rfl ?_
                            refine C41.iconst (2 : Int32) at_308 rfl rfl ?_
                            refine C41.icmp_lt at_309 (by decide) (by decide : _ = 317) rfl (fun c309 => ?_) (fun c309 => ?_)
                            · refine C41.iload at_317 rfl rfl ?_
                              refine C41.iconst (3 : Int32) at_319 rfl rfl ?_
                              refine C41.icmp_lt at_320 (by decide) (by decide : _ = 328) rfl (fun c320 => ?_) (fun c320 => ?_)
                              · refine C41.iconst (1 : Int32) at_328 rfl rfl ?_
                                refine C41.goto at_329 (by decide) (by decide : _ = 333) ?_
                                exact J333 _ (1 : Int32) C41 (by simp only [if_pos c270, if_pos c276, if_neg c287, if_pos c292, if_pos c298, if_pos c309, if_pos c320])
                              · refine C41.iload at_323 rfl rfl ?_
                                refine C41.if_ne at_325 (by decide) (by decide : _ = 332) rfl (fun c325 => ?_) (fun c325 => ?_)
                                · refine C41.iconst (0 : Int32) at_332 rfl rfl ?_
                                  exact J333 _ (0 : Int32) C41 (by simp only [if_pos c270, if_pos c276, if_neg c287, if_pos c292, if_pos c298, if_pos c309, if_neg c320, if_neg c325])
                                · refine C41.iconst (1 : Int32) at_328 rfl rfl ?_
                                  refine C41.goto at_329 (by decide) (by decide : _ = 333) ?_
                                  exact J333 _ (1 : Int32) C41 (by simp only [if_pos c270, if_pos c276, if_neg c287, if_pos c292, if_pos c298, if_pos c309, if_neg c320, if_pos c325])
                            · refine C41.iload at_312 rfl rfl ?_
                              refine C41.if_ne at_314 (by decide) (by decide : _ = 332) rfl (fun c314 => ?_) (fun c314 => ?_)
                              · refine C41.iconst (0 : Int32) at_332 rfl rfl ?_
                                exact J333 _ (0 : Int32) C41 (by simp only [if_pos c270, if_pos c276, if_neg c287, if_pos c292, if_pos c298, if_neg c309, if_neg c314])
                              · refine C41.iload at_317 rfl rfl ?_
                                refine C41.iconst (3 : Int32) at_319 rfl rfl ?_
                                refine C41.icmp_lt at_320 (by decide) (by decide : _ = 328) rfl (fun c320 => ?_) (fun c320 => ?_)
                                · refine C41.iconst (1 : Int32) at_328 rfl rfl ?_
                                  refine C41.goto at_329 (by decide) (by decide : _ = 333) ?_
                                  exact J333 _ (1 : Int32) C41 (by simp only [if_pos c270, if_pos c276, if_neg c287, if_pos c292, if_pos c298, if_neg c309, if_pos c314, if_pos c320])
                                · refine C41.iload at_323 rfl rfl ?_
                                  refine C41.if_ne at_325 (by decide) (by decide : _ = 332) rfl (fun c325 => ?_) (fun c325 => ?_)
                                  · refine C41.iconst (0 : Int32) at_332 rfl rfl ?_
                                    exact J333 _ (0 : Int32) C41 (by simp only [if_pos c270, if_pos c276, if_neg c287, if_pos c292, if_pos c298, if_neg c309, if_pos c314, if_neg c320, if_neg c325])
                                  · refine C41.iconst (1 : Int32) at_328 rfl rfl ?_
                                    refine C41.goto at_329 (by decide) (by decide : _ = 333) ?_
                                    exact J333 _ (1 : Int32) C41 (by simp only [if_pos c270, if_pos c276, if_neg c287, if_pos c292, if_pos c298, if_neg c309, if_pos c314, if_neg c320, if_pos c325])
                          · refine C41.iload at_301 rfl rfl ?_
                            refine C41.if_ne at_303 (by decide) (by decide : _ = 332) rfl (fun c303 => ?_) (fun c303 => ?_)
                            · refine C41.iconst (0 : Int32) at_332 rfl rfl ?_
                              exact J333 _ (0 : Int32) C41 (by simp only [if_pos c270, if_pos c276, if_neg c287, if_pos c292, if_neg c298, if_neg c303])
                            · refine C41.iload at_306 rfl rfl ?_
                              refine C41.iconst (2 : Int32) at_308 rfl rfl ?_
                              refine C41.icmp_lt at_309 (by decide) (by decide : _ = 317) rfl (fun c309 => ?_) (fun c309 => ?_)
                              · refine C41.iload at_317 rfl rfl ?_
                                refine C41.iconst (3 : Int32) at_319 rfl rfl ?_
                                refine C41.icmp_lt at_320 (by decide) (by decide : _ = 328) rfl (fun c320 => ?_) (fun c320 => ?_)
                                · refine C41.iconst (1 : Int32) at_328 rfl rfl ?_
                                  refine C41.goto at_329 (by decide) (by decide : _ = 333) ?_
                                  exact J333 _ (1 : Int32) C41 (by simp only [if_pos c270, if_pos c276, if_neg c287, if_pos c292, if_neg c298, if_pos c303, if_pos c309, if_pos c320])
                                · refine C41.iload at_323 rfl rfl ?_
                                  refine C41.if_ne at_325 (by decide) (by decide : _ = 332) rfl (fun c325 => ?_) (fun c325 => ?_)
                                  · refine C41.iconst (0 : Int32) at_332 rfl rfl ?_
                                    exact J333 _ (0 : Int32) C41 (by simp only [if_pos c270, if_pos c276, if_neg c287, if_pos c292, if_neg c298, if_pos c303, if_pos c309, if_neg c320, if_neg c325])
                                  · refine C41.iconst (1 : Int32) at_328 rfl rfl ?_
                                    refine C41.goto at_329 (by decide) (by decide : _ = 333) ?_
                                    exact J333 _ (1 : Int32) C41 (by simp only [if_pos c270, if_pos c276, if_neg c287, if_pos c292, if_neg c298, if_pos c303, if_pos c309, if_neg c320, if_pos c325])
                              · refine C41.iload at_312 rfl rfl ?_
                                refine C41.if_ne at_314 (by decide) (by decide : _ = 332) rfl (fun c314 => ?_) (fun c314 => ?_)
                                · refine C41.iconst (0 : Int32) at_332 rfl rfl ?_
                                  exact J333 _ (0 : Int32) C41 (by simp only [if_pos c270, if_pos c276, if_neg c287, if_pos c292, if_neg c298, if_pos c303, if_neg c309, if_neg c314])
                                · refine C41.iload at_317 rfl rfl ?_
                                  refine C41.iconst (3 : Int32) at_319 rfl rfl ?_
                                  refine C41.icmp_lt at_320 (by decide) (by decide : _ = 328) rfl (fun c320 => ?_) (fun c320 => ?_)
                                  · refine C41.iconst (1 : Int32) at_328 rfl rfl ?_
                                    refine C41.goto at_329 (by decide) (by decide : _ = 333) ?_
                                    exact J333 _ (1 : Int32) C41 (by simp only [if_pos c270, if_pos c276, if_neg c287, if_pos c292, if_neg c298, if_pos c303, if_neg c309, if_pos c314, if_pos c320])
                                  · refine C41.iload at_323 rfl rfl ?_
                                    refine C41.if_ne at_325 (by decide) (by decide : _ = 332) rfl (fun c325 => ?_) (fun c325 => ?_)
                                    · refine C41.iconst (0 : Int32) at_332 rfl rfl ?_
                                      exact J333 _ (0 : Int32) C41 (by simp only [if_pos c270, if_pos c276, if_neg c287, if_pos c292, if_neg c298, if_pos c303, if_neg c309, if_pos c314, if_neg c320, if_neg c325])
                                    · refine C41.iconst (1 : Int32) at_328 rfl rfl ?_
                                      refine C41.goto at_329 (by decide) (by decide : _ = 333) ?_
                                      exact J333 _ (1 : Int32) C41 (by simp only [if_pos c270, if_pos c276, if_neg c287, if_pos c292, if_neg c298, if_pos c303, if_neg c309, if_pos c314, if_neg c320, if_pos c325])
                    · refine C41.iload at_279 rfl rfl ?_
                      refine C41.if_ne at_281 (by decide) (by decide : _ = 332) rfl (fun c281 => ?_) (fun c281 => ?_)
                      · refine C41.iconst (0 : Int32) at_332 rfl rfl ?_
                        exact J333 _ (0 : Int32) C41 (by simp only [if_pos c270, if_neg c276, if_neg c281])
                      · refine C41.iload at_284 rfl rfl ?_
                        refine C41.iconst (3 : Int32) at_286 rfl rfl ?_
                        refine C41.icmp_lt at_287 (by decide) (by decide : _ = 295) rfl (fun c287 => ?_) (fun c287 => ?_)
                        · refine C41.iload at_295 rfl rfl ?_
                          refine C41.iconst (1 : Int32) at_297 rfl rfl ?_
                          refine C41.icmp_lt at_298 (by decide) (by decide : _ = 306) rfl (fun c298 => ?_) (fun c298 => ?_)
                          · refine C41.iload at_306 rfl rfl ?_
                            refine C41.iconst (2 : Int32) at_308 rfl rfl ?_
                            refine C41.icmp_lt at_309 (by decide) (by decide : _ = 317) rfl (fun c309 => ?_) (fun c309 => ?_)
                            · refine C41.iload at_317 rfl rfl ?_
                              refine C41.iconst (3 : Int32) at_319 rfl rfl ?_
                              refine C41.icmp_lt at_320 (by decide) (by decide : _ = 328) rfl (fun c320 => ?_) (fun c320 => ?_)
                              · refine C41.iconst (1 : Int32) at_328 rfl rfl ?_
                                refine C41.goto at_329 (by decide) (by decide : _ = 333) ?_
                                exact J333 _ (1 : Int32) C41 (by simp only [if_pos c270, if_neg c276, if_pos c281, if_pos c287, if_pos c298, if_pos c309, if_pos c320])
                              · refine C41.iload at_323 rfl rfl ?_
                                refine C41.if_ne at_325 (by decide) (by decide : _ = 332) rfl (fun c325 => ?_) (fun c325 => ?_)
                                · refine C41.iconst (0 : Int32) at_332 rfl rfl ?_
                                  exact J333 _ (0 : Int32) C41 (by simp only [if_pos c270, if_neg c276, if_pos c281, if_pos c287, if_pos c298, if_pos c309, if_neg c320, if_neg c325])
                                · refine C41.iconst (1 : Int32) at_328 rfl rfl ?_
                                  refine C41.goto at_329 (by decide) (by decide : _ = 333) ?_
                                  exact J333 _ (1 : Int32) C41 (by simp only [if_pos c270, if_neg c276, if_pos c281, if_pos c287, if_pos c298, if_pos c309, if_neg c320, if_pos c325])
                            · refine C41.iload at_312 rfl rfl ?_
                              refine C41.if_ne at_314 (by decide) (by decide : _ = 332) rfl (fun c314 => ?_) (fun c314 => ?_)
                              · refine C41.iconst (0 : Int32) at_332 rfl rfl ?_
                                exact J333 _ (0 : Int32) C41 (by simp only [if_pos c270, if_neg c276, if_pos c281, if_pos c287, if_pos c298, if_neg c309, if_neg c314])
                              · refine C41.iload at_317 rfl rfl ?_
                                refine C41.iconst (3 : Int32) at_319 rfl rfl ?_
                                refine C41.icmp_lt at_320 (by decide) (by decide : _ = 328) rfl (fun c320 => ?_) (fun c320 => ?_)
                                · refine C41.iconst (1 : Int32) at_328 rfl rfl ?_
                                  refine C41.goto at_329 (by decide) (by decide : _ = 333) ?_
                                  exact J333 _ (1 : Int32) C41 (by simp only [if_pos c270, if_neg c276, if_pos c281, if_pos c287, if_pos c298, if_neg c309, if_pos c314, if_pos c320])
                                · refine C41.iload at_323 rfl rfl ?_
                                  refine C41.if_ne at_325 (by decide) (by decide : _ = 332) rfl (fun c325 => ?_) (fun c325 => ?_)
                                  · refine C41.iconst (0 : Int32) at_332 rfl rfl ?_
                                    exact J333 _ (0 : Int32) C41 (by simp only [if_pos c270, if_neg c276, if_pos c281, if_pos c287, if_pos c298, if_neg c309, if_pos c314, if_neg c320, if_neg c325])
                                  · refine C41.iconst (1 : Int32) at_328 rfl rfl ?_
                                    refine C41.goto at_329 (by decide) (by decide : _ = 333) ?_
                                    exact J333 _ (1 : Int32) C41 (by simp only [if_pos c270, if_neg c276, if_pos c281, if_pos c287, if_pos c298, if_neg c309, if_pos c314, if_neg c320, if_pos c325])
                          · refine C41.iload at_301 rfl rfl ?_
                            refine C41.if_ne at_303 (by decide) (by decide : _ = 332) rfl (fun c303 => ?_) (fun c303 => ?_)
                            · refine C41.iconst (0 : Int32) at_332 rfl rfl ?_
                              exact J333 _ (0 : Int32) C41 (by simp only [if_pos c270, if_neg c276, if_pos c281, if_pos c287, if_neg c298, if_neg c303])
                            · refine C41.iload at_306 rfl rfl ?_
                              refine C41.iconst (2 : Int32) at_308 rfl rfl ?_
                              refine C41.icmp_lt at_309 (by decide) (by decide : _ = 317) rfl (fun c309 => ?_) (fun c309 => ?_)
                              · refine C41.iload at_317 rfl rfl ?_
                                refine C41.iconst (3 : Int32) at_319 rfl rfl ?_
                                refine C41.icmp_lt at_320 (by decide) (by decide : _ = 328) rfl (fun c320 => ?_) (fun c320 => ?_)
                                · refine C41.iconst (1 : Int32) at_328 rfl rfl ?_
                                  refine C41.goto at_329 (by decide) (by decide : _ = 333) ?_
                                  exact J333 _ (1 : Int32) C41 (by simp only [if_pos c270, if_neg c276, if_pos c281, if_pos c287, if_neg c298, if_pos c303, if_pos c309, if_pos c320])
                                · refine C41.iload at_323 rfl rfl ?_
                                  refine C41.if_ne at_325 (by decide) (by decide : _ = 332) rfl (fun c325 => ?_) (fun c325 => ?_)
                                  · refine C41.iconst (0 : Int32) at_332 rfl rfl ?_
                                    exact J333 _ (0 : Int32) C41 (by simp only [if_pos c270, if_neg c276, if_pos c281, if_pos c287, if_neg c298, if_pos c303, if_pos c309, if_neg c320, if_neg c325])
                                  · refine C41.iconst (1 : Int32) at_328 rfl rfl ?_
                                    refine C41.goto at_329 (by decide) (by decide : _ = 333) ?_
                                    exact J333 _ (1 : Int32) C41 (by simp only [if_pos c270, if_neg c276, if_pos c281, if_pos c287, if_neg c298, if_pos c303, if_pos c309, if_neg c320, if_pos c325])
                              · refine C41.iload at_312 rfl rfl ?_
                                refine C41.if_ne at_314 (by decide) (by decide : _ = 332) rfl (fun c314 => ?_) (fun c314 => ?_)
                                · refine C41.iconst (0 : Int32) at_332 rfl rfl ?_
                                  exact J333 _ (0 : Int32) C41 (by simp only [if_pos c270, if_neg c276, if_pos c281, if_pos c287, if_neg c298, if_pos c303, if_neg c309, if_neg c314])
                                · refine C41.iload at_317 rfl rfl ?_
                                  refine C41.iconst (3 : Int32) at_319 rfl rfl ?_
                                  refine C41.icmp_lt at_320 (by decide) (by decide : _ = 328) rfl (fun c320 => ?_) (fun c320 => ?_)
                                  · refine C41.iconst (1 : Int32) at_328 rfl rfl ?_
                                    refine C41.goto at_329 (by decide) (by decide : _ = 333) ?_
                                    exact J333 _ (1 : Int32) C41 (by simp only [if_pos c270, if_neg c276, if_pos c281, if_pos c287, if_neg c298, if_pos c303, if_neg c309, if_pos c314, if_pos c320])
                                  · refine C41.iload at_323 rfl rfl ?_
                                    refine C41.if_ne at_325 (by decide) (by decide : _ = 332) rfl (fun c325 => ?_) (fun c325 => ?_)
                                    · refine C41.iconst (0 : Int32) at_332 rfl rfl ?_
                                      exact J333 _ (0 : Int32) C41 (by simp only [if_pos c270, if_neg c276, if_pos c281, if_pos c287, if_neg c298, if_pos c303, if_neg c309, if_pos c314, if_neg c320, if_neg c325])
                                    · refine C41.iconst (1 : Int32) at_328 rfl rfl ?_
                                      refine C41.goto at_329 (by decide) (by decide : _ = 333) ?_
                                      exact J333 _ (1 : Int32) C41 (by simp only [if_pos c270, if_neg c276, if_pos c281, if_pos c287, if_neg c298, if_pos c303, if_neg c309, if_pos c314, if_neg c320, if_pos c325])
                        · refine C41.iload at_290 rfl rfl ?_
                          refine C41.if_ne at_292 (by decide) (by decide : _ = 332) rfl (fun c292 => ?_) (fun c292 => ?_)
                          · refine C41.iconst (0 : Int32) at_332 rfl rfl ?_
                            exact J333 _ (0 : Int32) C41 (by simp only [if_pos c270, if_neg c276, if_pos c281, if_neg c287, if_neg c292])
                          · refine C41.iload at_295 rfl rfl ?_
                            refine C41.iconst (1 : Int32) at_297 rfl rfl ?_
                            refine C41.icmp_lt at_298 (by decide) (by decide : _ = 306) rfl (fun c298 => ?_) (fun c298 => ?_)
                            · refine C41.iload at_306 rfl rfl ?_
                              refine C41.iconst (2 : Int32) at_308 rfl rfl ?_
                              refine C41.icmp_lt at_309 (by decide) (by decide : _ = 317) rfl (fun c309 => ?_) (fun c309 => ?_)
                              · refine C41.iload at_317 rfl rfl ?_
                                refine C41.iconst (3 : Int32) at_319 rfl rfl ?_
                                refine C41.icmp_lt at_320 (by decide) (by decide : _ = 328) rfl (fun c320 => ?_) (fun c320 => ?_)
                                · refine C41.iconst (1 : Int32) at_328 rfl rfl ?_
                                  refine C41.goto at_329 (by decide) (by decide : _ = 333) ?_
                                  exact J333 _ (1 : Int32) C41 (by simp only [if_pos c270, if_neg c276, if_pos c281, if_neg c287, if_pos c292, if_pos c298, if_pos c309, if_pos c320])
                                · refine C41.iload at_323 rfl rfl ?_
                                  refine C41.if_ne at_325 (by decide) (by decide : _ = 332) rfl (fun c325 => ?_) (fun c325 => ?_)
                                  · refine C41.iconst (0 : Int32) at_332 rfl rfl ?_
                                    exact J333 _ (0 : Int32) C41 (by simp only [if_pos c270, if_neg c276, if_pos c281, if_neg c287, if_pos c292, if_pos c298, if_pos c309, if_neg c320, if_neg c325])
                                  · refine C41.iconst (1 : Int32) at_328 rfl rfl ?_
                                    refine C41.goto at_329 (by decide) (by decide : _ = 333) ?_
                                    exact J333 _ (1 : Int32) C41 (by simp only [if_pos c270, if_neg c276, if_pos c281, if_neg c287, if_pos c292, if_pos c298, if_pos c309, if_neg c320, if_pos c325])
                              · refine C41.iload at_312 rfl rfl ?_
                                refine C41.if_ne at_314 (by decide) (by decide : _ = 332) rfl (fun c314 => ?_) (fun c314 => ?_)
                                · refine C41.iconst (0 : Int32) at_332 rfl rfl ?_
                                  exact J333 _ (0 : Int32) C41 (by simp only [if_pos c270, if_neg c276, if_pos c281, if_neg c287, if_pos c292, if_pos c298, if_neg c309, if_neg c314])
                                · refine C41.iload at_317 rfl rfl ?_
                                  refine C41.iconst (3 : Int32) at_319 rfl rfl ?_
                                  refine C41.icmp_lt at_320 (by decide) (by decide : _ = 328) rfl (fun c320 => ?_) (fun c320 => ?_)
                                  · refine C41.iconst (1 : Int32) at_328 rfl rfl ?_
                                    refine C41.goto at_329 (by decide) (by decide : _ = 333) ?_
                                    exact J333 _ (1 : Int32) C41 (by simp only [if_pos c270, if_neg c276, if_pos c281, if_neg c287, if_pos c292, if_pos c298, if_neg c309, if_pos c314, if_pos c320])
                                  · refine C41.iload at_323 rfl rfl ?_
                                    refine C41.if_ne at_325 (by decide) (by decide : _ = 332) rfl (fun c325 => ?_) (fun c325 => ?_)
                                    · refine C41.iconst (0 : Int32) at_332 rfl rfl ?_
                                      exact J333 _ (0 : Int32) C41 (by simp only [if_pos c270, if_neg c276, if_pos c281, if_neg c287, if_pos c292, if_pos c298, if_neg c309, if_pos c314, if_neg c320, if_neg c325])
                                    · refine C41.iconst (1 : Int32) at_328 rfl rfl ?_
                                      refine C41.goto at_329 (by decide) (by decide : _ = 333) ?_
                                      exact J333 _ (1 : Int32) C41 (by simp only [if_pos c270, if_neg c276, if_pos c281, if_neg c287, if_pos c292, if_pos c298, if_neg c309, if_pos c314, if_neg c320, if_pos c325])
                            · refine C41.iload at_301 rfl rfl ?_
                              refine C41.if_ne at_303 (by decide) (by decide : _ = 332) rfl (fun c303 => ?_) (fun c303 => ?_)
                              · refine C41.iconst (0 : Int32) at_332 rfl rfl ?_
                                exact J333 _ (0 : Int32) C41 (by simp only [if_pos c270, if_neg c276, if_pos c281, if_neg c287, if_pos c292, if_neg c298, if_neg c303])
                              · refine C41.iload at_306 rfl rfl ?_
                                refine C41.iconst (2 : Int32) at_308 rfl rfl ?_
                                refine C41.icmp_lt at_309 (by decide) (by decide : _ = 317) rfl (fun c309 => ?_) (fun c309 => ?_)
                                · refine C41.iload at_317 rfl rfl ?_
                                  refine C41.iconst (3 : Int32) at_319 rfl rfl ?_
                                  refine C41.icmp_lt at_320 (by decide) (by decide : _ = 328) rfl (fun c320 => ?_) (fun c320 => ?_)
                                  · refine C41.iconst (1 : Int32) at_328 rfl rfl ?_
                                    refine C41.goto at_329 (by decide) (by decide : _ = 333) ?_
                                    exact J333 _ (1 : Int32) C41 (by simp only [if_pos c270, if_neg c276, if_pos c281, if_neg c287, if_pos c292, if_neg c298, if_pos c303, if_pos c309, if_pos c320])
                                  · refine C41.iload at_323 rfl rfl ?_
                                    refine C41.if_ne at_325 (by decide) (by decide : _ = 332) rfl (fun c325 => ?_) (fun c325 => ?_)
                                    · refine C41.iconst (0 : Int32) at_332 rfl rfl ?_
                                      exact J333 _ (0 : Int32) C41 (by simp only [if_pos c270, if_neg c276, if_pos c281, if_neg c287, if_pos c292, if_neg c298, if_pos c303, if_pos c309, if_neg c320, if_neg c325])
                                    · refine C41.iconst (1 : Int32) at_328 rfl rfl ?_
                                      refine C41.goto at_329 (by decide) (by decide : _ = 333) ?_
                                      exact J333 _ (1 : Int32) C41 (by simp only [if_pos c270, if_neg c276, if_pos c281, if_neg c287, if_pos c292, if_neg c298, if_pos c303, if_pos c309, if_neg c320, if_pos c325])
                                · refine C41.iload at_312 rfl rfl ?_
                                  refine C41.if_ne at_314 (by decide) (by decide : _ = 332) rfl (fun c314 => ?_) (fun c314 => ?_)
                                  · refine C41.iconst (0 : Int32) at_332 rfl rfl ?_
                                    exact J333 _ (0 : Int32) C41 (by simp only [if_pos c270, if_neg c276, if_pos c281, if_neg c287, if_pos c292, if_neg c298, if_pos c303, if_neg c309, if_neg c314])
                                  · refine C41.iload at_317 rfl rfl ?_
                                    refine C41.iconst (3 : Int32) at_319 rfl rfl ?_
                                    refine C41.icmp_lt at_320 (by decide) (by decide : _ = 328) rfl (fun c320 => ?_) (fun c320 => ?_)
                                    · refine C41.iconst (1 : Int32) at_328 rfl rfl ?_
                                      refine C41.goto at_329 (by decide) (by decide : _ = 333) ?_
                                      exact J333 _ (1 : Int32) C41 (by simp only [if_pos c270, if_neg c276, if_pos c281, if_neg c287, if_pos c292, if_neg c298, if_pos c303, if_neg c309, if_pos c314, if_pos c320])
                                    · refine C41.iload at_323 rfl rfl ?_
                                      refine C41.if_ne at_325 (by decide) (by decide : _ = 332) rfl (fun c325 => ?_) (fun c325 => ?_)
                                      · refine C41.iconst (0 : Int32) at_332 rfl rfl ?_
                                        exact J333 _ (0 : Int32) C41 (by simp only [if_pos c270, if_neg c276, if_pos c281, if_neg c287, if_pos c292, if_neg c298, if_pos c303, if_neg c309, if_pos c314, if_neg c320, if_neg c325])
                                      · refine C41.iconst (1 : Int32) at_328 rfl rfl ?_
                                        refine C41.goto at_329 (by decide) (by decide : _ = 333) ?_
                                        exact J333 _ (1 : Int32) C41 (by simp only [if_pos c270, if_neg c276, if_pos c281, if_neg c287, if_pos c292, if_neg c298, if_pos c303, if_neg c309, if_pos c314, if_neg c320, if_pos c325])
                refine C39.icmp_lt at_253 (by decide) (by decide : _ = 265) rfl (fun c253 => ?_) (fun c253 => ?_)
                · refine C39.iconst (0 : Int32) at_265 rfl rfl ?_
                  exact J266 _ (0 : Int32) C39 (by simp only [if_pos c253])
                · refine C39.iload at_256 rfl rfl ?_
                  refine C39.if_ne at_258 (by decide) (by decide : _ = 265) rfl (fun c258 => ?_) (fun c258 => ?_)
                  · refine C39.iconst (0 : Int32) at_265 rfl rfl ?_
                    exact J266 _ (0 : Int32) C39 (by simp only [if_neg c253, if_neg c258])
                  · refine C39.iconst (1 : Int32) at_261 rfl rfl ?_
                    refine C39.goto at_262 (by decide) (by decide : _ = 266) ?_
                    exact J266 _ (1 : Int32) C39 (by simp only [if_neg c253, if_pos c258])
              refine C34.icmp_lt at_222 (by decide) (by decide : _ = 239) rfl (fun c222 => ?_) (fun c222 => ?_)
              · exact J239 _ _ u33 w35 C34 (by simp only [if_pos c222]) (by simp only [if_pos c222]) V_b18
              · refine C34.aload at_225 rfl rfl rfl ?_
                refine C34.iload at_227 rfl rfl ?_
                refine C34.bipush (48 : Int32) at_229 rfl rfl ?_
                refine C34.iload at_231 rfl rfl ?_
                refine C34.iadd at_233 rfl ?_
                refine C34.i2b at_234 rfl ?_
                refine C34.bastore V_b18 (own_pre14 i0 i1 i2 i3 u1 v3 v4 v5 v7 v9 v11 v13 v15 v17 u20 w22 u24 w26 u27 w29 u30 w32 u33 w35 hu1 hv3 hv4 hv5 hv7 hv9 hv11 hv13 hv15 hv17 hu20 hw22 hu24 hw26 hu27 hw29 hu30 hw32 hu33 hw35 c222) (own_pre15 i0 i1 i2 i3 u1 v3 v4 v5 v7 v9 v11 v13 v15 v17 u20 w22 u24 w26 u27 w29 u30 w32 u33 w35 hu1 hv3 hv4 hv5 hv7 hv9 hv11 hv13 hv15 hv17 hu20 hw22 hu24 hw26 hu27 hw29 hu30 hw32 hu33 hw35 c222) g_b18 at_235 rfl (fun T47 h47 C47 W47 Vn47 => ?_)
                have V_b18 : Arv Z h47 b18 k18 .byte (11 : Int32) (w35.set (u33).toNatClampNeg (.int (nar .byte (((48 : Int32) + v17).toInt8.toInt32)))) (.int (0 : Int32)) := Vn47
                refine C47.iinc (1 : Int32) at_236 rfl rfl rfl (L' := #[.val (.int i0), .val (.int i1), .val (.int i2), .val (.int i3), .val (.int u1), .val (.int v3), .val (.int v4), .val (.int v5), .val (.int v7), .val (.int v9), .val (.int v11), .val (.int v13), .val (.int v15), .val (.int v17), .val (.ref b18), .val (.int (u33 + (1 : Int32))), .val (.int v5), .unset, .unset, .unset, .unset]) rfl ?_
                exact J239 _ _ (u33 + (1 : Int32)) (w35.set (u33).toNatClampNeg (.int (nar .byte (((48 : Int32) + v17).toInt8.toInt32)))) C47 (by simp only [if_neg c222]) (by simp only [if_neg c222]) V_b18
            refine C31.icmp_lt at_202 (by decide) (by decide : _ = 219) rfl (fun c202 => ?_) (fun c202 => ?_)
            · exact J219 _ _ u30 w32 C31 (by simp only [if_pos c202]) (by simp only [if_pos c202]) V_b18
            · refine C31.aload at_205 rfl rfl rfl ?_
              refine C31.iload at_207 rfl rfl ?_
              refine C31.bipush (48 : Int32) at_209 rfl rfl ?_
              refine C31.iload at_211 rfl rfl ?_
              refine C31.iadd at_213 rfl ?_
              refine C31.i2b at_214 rfl ?_
              refine C31.bastore V_b18 (own_pre12 i0 i1 i2 i3 u1 v3 v4 v5 v7 v9 v11 v13 v15 v17 u20 w22 u24 w26 u27 w29 u30 w32 hu1 hv3 hv4 hv5 hv7 hv9 hv11 hv13 hv15 hv17 hu20 hw22 hu24 hw26 hu27 hw29 hu30 hw32 c202) (own_pre13 i0 i1 i2 i3 u1 v3 v4 v5 v7 v9 v11 v13 v15 v17 u20 w22 u24 w26 u27 w29 u30 w32 hu1 hv3 hv4 hv5 hv7 hv9 hv11 hv13 hv15 hv17 hu20 hw22 hu24 hw26 hu27 hw29 hu30 hw32 c202) g_b18 at_215 rfl (fun T48 h48 C48 W48 Vn48 => ?_)
              have V_b18 : Arv Z h48 b18 k18 .byte (11 : Int32) (w32.set (u30).toNatClampNeg (.int (nar .byte (((48 : Int32) + v15).toInt8.toInt32)))) (.int (0 : Int32)) := Vn48
              refine C48.iinc (1 : Int32) at_216 rfl rfl rfl (L' := #[.val (.int i0), .val (.int i1), .val (.int i2), .val (.int i3), .val (.int u1), .val (.int v3), .val (.int v4), .val (.int v5), .val (.int v7), .val (.int v9), .val (.int v11), .val (.int v13), .val (.int v15), .val (.int v17), .val (.ref b18), .val (.int (u30 + (1 : Int32))), .val (.int v5), .unset, .unset, .unset, .unset]) rfl ?_
              exact J219 _ _ (u30 + (1 : Int32)) (w32.set (u30).toNatClampNeg (.int (nar .byte (((48 : Int32) + v15).toInt8.toInt32)))) C48 (by simp only [if_neg c202]) (by simp only [if_neg c202]) V_b18
          refine C28.icmp_lt at_172 (by decide) (by decide : _ = 199) rfl (fun c172 => ?_) (fun c172 => ?_)
          · exact J199 _ _ u27 w29 C28 (by simp only [if_pos c172]) (by simp only [if_pos c172]) V_b18
          · refine C28.aload at_175 rfl rfl rfl ?_
            refine C28.iload at_177 rfl rfl ?_
            refine C28.bipush (46 : Int32) at_179 rfl rfl ?_
            refine C28.bastore V_b18 (own_pre8 i0 i1 i2 i3 u1 v3 v4 v5 v7 v9 v11 v13 v15 v17 u20 w22 u24 w26 u27 w29 hu1 hv3 hv4 hv5 hv7 hv9 hv11 hv13 hv15 hv17 hu20 hw22 hu24 hw26 hu27 hw29 c172) (own_pre9 i0 i1 i2 i3 u1 v3 v4 v5 v7 v9 v11 v13 v15 v17 u20 w22 u24 w26 u27 w29 hu1 hv3 hv4 hv5 hv7 hv9 hv11 hv13 hv15 hv17 hu20 hw22 hu24 hw26 hu27 hw29 c172) g_b18 at_181 rfl (fun T49 h49 C49 W49 Vn49 => ?_)
            have V_b18 : Arv Z h49 b18 k18 .byte (11 : Int32) (w29.set (u27).toNatClampNeg (.int (nar .byte (46 : Int32)))) (.int (0 : Int32)) := Vn49
            refine C49.iinc (1 : Int32) at_182 rfl rfl rfl (L' := #[.val (.int i0), .val (.int i1), .val (.int i2), .val (.int i3), .val (.int u1), .val (.int v3), .val (.int v4), .val (.int v5), .val (.int v7), .val (.int v9), .val (.int v11), .val (.int v13), .val (.int v15), .val (.int v17), .val (.ref b18), .val (.int (u27 + (1 : Int32))), .val (.int v5), .unset, .unset, .unset, .unset]) rfl ?_
            refine C49.aload at_185 rfl rfl rfl ?_
            refine C49.iload at_187 rfl rfl ?_
            refine C49.bipush (48 : Int32) at_189 rfl rfl ?_
            refine C49.iload at_191 rfl rfl ?_
            refine C49.iadd at_193 rfl ?_
            refine C49.i2b at_194 rfl ?_
            refine C49.bastore V_b18 (own_pre10 i0 i1 i2 i3 u1 v3 v4 v5 v7 v9 v11 v13 v15 v17 u20 w22 u24 w26 u27 w29 hu1 hv3 hv4 hv5 hv7 hv9 hv11 hv13 hv15 hv17 hu20 hw22 hu24 hw26 hu27 hw29 c172) (own_pre11 i0 i1 i2 i3 u1 v3 v4 v5 v7 v9 v11 v13 v15 v17 u20 w22 u24 w26 u27 w29 hu1 hv3 hv4 hv5 hv7 hv9 hv11 hv13 hv15 hv17 hu20 hw22 hu24 hw26 hu27 hw29 c172) g_b18 at_195 rfl (fun T50 h50 C50 W50 Vn50 => ?_)
            have V_b18 : Arv Z h50 b18 k18 .byte (11 : Int32) ((w29.set (u27).toNatClampNeg (.int (nar .byte (46 : Int32)))).set ((u27 + (1 : Int32))).toNatClampNeg (.int (nar .byte (((48 : Int32) + v13).toInt8.toInt32)))) (.int (0 : Int32)) := Vn50
            refine C50.iinc (1 : Int32) at_196 rfl rfl rfl (L' := #[.val (.int i0), .val (.int i1), .val (.int i2), .val (.int i3), .val (.int u1), .val (.int v3), .val (.int v4), .val (.int v5), .val (.int v7), .val (.int v9), .val (.int v11), .val (.int v13), .val (.int v15), .val (.int v17), .val (.ref b18), .val (.int ((u27 + (1 : Int32)) + (1 : Int32))), .val (.int v5), .unset, .unset, .unset, .unset]) rfl ?_
            exact J199 _ _ ((u27 + (1 : Int32)) + (1 : Int32)) ((w29.set (u27).toNatClampNeg (.int (nar .byte (46 : Int32)))).set ((u27 + (1 : Int32))).toNatClampNeg (.int (nar .byte (((48 : Int32) + v13).toInt8.toInt32)))) C50 (by simp only [if_neg c172]) (by simp only [if_neg c172]) V_b18
        refine C25.icmp_lt at_152 (by decide) (by decide : _ = 169) rfl (fun c152 => ?_) (fun c152 => ?_)
        · exact J169 _ _ u24 w26 C25 (by simp only [if_pos c152]) (by simp only [if_pos c152]) V_b18
        · refine C25.aload at_155 rfl rfl rfl ?_
          refine C25.iload at_157 rfl rfl ?_
          refine C25.bipush (48 : Int32) at_159 rfl rfl ?_
          refine C25.iload at_161 rfl rfl ?_
          refine C25.iadd at_163 rfl ?_
          refine C25.i2b at_164 rfl ?_
          refine C25.bastore V_b18 (own_pre6 i0 i1 i2 i3 u1 v3 v4 v5 v7 v9 v11 v13 v15 v17 u20 w22 u24 w26 hu1 hv3 hv4 hv5 hv7 hv9 hv11 hv13 hv15 hv17 hu20 hw22 hu24 hw26 c152) (own_pre7 i0 i1 i2 i3 u1 v3 v4 v5 v7 v9 v11 v13 v15 v17 u20 w22 u24 w26 hu1 hv3 hv4 hv5 hv7 hv9 hv11 hv13 hv15 hv17 hu20 hw22 hu24 hw26 c152) g_b18 at_165 rfl (fun T51 h51 C51 W51 Vn51 => ?_)
          have V_b18 : Arv Z h51 b18 k18 .byte (11 : Int32) (w26.set (u24).toNatClampNeg (.int (nar .byte (((48 : Int32) + v11).toInt8.toInt32)))) (.int (0 : Int32)) := Vn51
          refine C51.iinc (1 : Int32) at_166 rfl rfl rfl (L' := #[.val (.int i0), .val (.int i1), .val (.int i2), .val (.int i3), .val (.int u1), .val (.int v3), .val (.int v4), .val (.int v5), .val (.int v7), .val (.int v9), .val (.int v11), .val (.int v13), .val (.int v15), .val (.int v17), .val (.ref b18), .val (.int (u24 + (1 : Int32))), .val (.int v5), .unset, .unset, .unset, .unset]) rfl ?_
          exact J169 _ _ (u24 + (1 : Int32)) (w26.set (u24).toNatClampNeg (.int (nar .byte (((48 : Int32) + v11).toInt8.toInt32)))) C51 (by simp only [if_neg c152]) (by simp only [if_neg c152]) V_b18
      refine C23.icmp_lt at_132 (by decide) (by decide : _ = 149) rfl (fun c132 => ?_) (fun c132 => ?_)
      · exact J149 _ _ (u20 + (1 : Int32)) (w22.set (u20).toNatClampNeg (.int (nar .byte (((48 : Int32) + v7).toInt8.toInt32)))) C23 (by simp only [if_pos c132]) (by simp only [if_pos c132]) V_b18
      · refine C23.aload at_135 rfl rfl rfl ?_
        refine C23.iload at_137 rfl rfl ?_
        refine C23.bipush (48 : Int32) at_139 rfl rfl ?_
        refine C23.iload at_141 rfl rfl ?_
        refine C23.iadd at_143 rfl ?_
        refine C23.i2b at_144 rfl ?_
        refine C23.bastore V_b18 (own_pre4 i0 i1 i2 i3 u1 v3 v4 v5 v7 v9 v11 v13 v15 v17 u20 w22 hu1 hv3 hv4 hv5 hv7 hv9 hv11 hv13 hv15 hv17 hu20 hw22 c132) (own_pre5 i0 i1 i2 i3 u1 v3 v4 v5 v7 v9 v11 v13 v15 v17 u20 w22 hu1 hv3 hv4 hv5 hv7 hv9 hv11 hv13 hv15 hv17 hu20 hw22 c132) g_b18 at_145 rfl (fun T52 h52 C52 W52 Vn52 => ?_)
        have V_b18 : Arv Z h52 b18 k18 .byte (11 : Int32) ((w22.set (u20).toNatClampNeg (.int (nar .byte (((48 : Int32) + v7).toInt8.toInt32)))).set ((u20 + (1 : Int32))).toNatClampNeg (.int (nar .byte (((48 : Int32) + v9).toInt8.toInt32)))) (.int (0 : Int32)) := Vn52
        refine C52.iinc (1 : Int32) at_146 rfl rfl rfl (L' := #[.val (.int i0), .val (.int i1), .val (.int i2), .val (.int i3), .val (.int u1), .val (.int v3), .val (.int v4), .val (.int v5), .val (.int v7), .val (.int v9), .val (.int v11), .val (.int v13), .val (.int v15), .val (.int v17), .val (.ref b18), .val (.int ((u20 + (1 : Int32)) + (1 : Int32))), .val (.int v5), .unset, .unset, .unset, .unset]) rfl ?_
        exact J149 _ _ ((u20 + (1 : Int32)) + (1 : Int32)) ((w22.set (u20).toNatClampNeg (.int (nar .byte (((48 : Int32) + v7).toInt8.toInt32)))).set ((u20 + (1 : Int32))).toNatClampNeg (.int (nar .byte (((48 : Int32) + v9).toInt8.toInt32)))) C52 (by simp only [if_neg c132]) (by simp only [if_neg c132]) V_b18
    refine C19.if_eq at_102 (by decide) (by decide : _ = 115) rfl (fun c102 => ?_) (fun c102 => ?_)
    · exact J115 _ _ v5 [(.int (nar .byte (i2.toInt8.toInt32))), (.int (0 : Int32)), (.int (0 : Int32)), (.int (0 : Int32)), (.int (0 : Int32)), (.int (0 : Int32)), (.int (0 : Int32)), (.int (0 : Int32)), (.int (0 : Int32)), (.int (0 : Int32)), (.int (0 : Int32))] C19 (by simp only [if_pos c102]) (by simp only [if_pos c102]) V_b18
    · refine C19.aload at_105 rfl rfl rfl ?_
      refine C19.iload at_107 rfl rfl ?_
      refine C19.bipush (45 : Int32) at_109 rfl rfl ?_
      refine C19.bastore V_b18 (own_pre0 i0 i1 i2 i3 u1 v3 v4 v5 v7 v9 v11 v13 v15 v17 hu1 hv3 hv4 hv5 hv7 hv9 hv11 hv13 hv15 hv17 c102) (own_pre1 i0 i1 i2 i3 u1 v3 v4 v5 v7 v9 v11 v13 v15 v17 hu1 hv3 hv4 hv5 hv7 hv9 hv11 hv13 hv15 hv17 c102) g_b18 at_111 rfl (fun T53 h53 C53 W53 Vn53 => ?_)
      have V_b18 : Arv Z h53 b18 k18 .byte (11 : Int32) ([(.int (nar .byte (i2.toInt8.toInt32))), (.int (0 : Int32)), (.int (0 : Int32)), (.int (0 : Int32)), (.int (0 : Int32)), (.int (0 : Int32)), (.int (0 : Int32)), (.int (0 : Int32)), (.int (0 : Int32)), (.int (0 : Int32)), (.int (0 : Int32))].set (v5).toNatClampNeg (.int (nar .byte (45 : Int32)))) (.int (0 : Int32)) := Vn53
      refine C53.iinc (1 : Int32) at_112 rfl rfl rfl (L' := #[.val (.int i0), .val (.int i1), .val (.int i2), .val (.int i3), .val (.int u1), .val (.int v3), .val (.int v4), .val (.int v5), .val (.int v7), .val (.int v9), .val (.int v11), .val (.int v13), .val (.int v15), .val (.int v17), .val (.ref b18), .val (.int (v5 + (1 : Int32))), .val (.int v5), .unset, .unset, .unset, .unset]) rfl ?_
      exact J115 _ _ (v5 + (1 : Int32)) ([(.int (nar .byte (i2.toInt8.toInt32))), (.int (0 : Int32)), (.int (0 : Int32)), (.int (0 : Int32)), (.int (0 : Int32)), (.int (0 : Int32)), (.int (0 : Int32)), (.int (0 : Int32)), (.int (0 : Int32)), (.int (0 : Int32)), (.int (0 : Int32))].set (v5).toNatClampNeg (.int (nar .byte (45 : Int32)))) C53 (by simp only [if_neg c102]) (by simp only [if_neg c102]) V_b18
  refine C0.if_eq at_3 (by decide) (by decide : _ = 10) rfl (fun c3 => ?_) (fun c3 => ?_)
  · refine C0.iconst (0 : Int32) at_10 rfl rfl ?_
    exact J11 _ (0 : Int32) C0 (by simp only [if_pos c3])
  · refine C0.iconst (1 : Int32) at_6 rfl rfl ?_
    refine C0.goto at_7 (by decide) (by decide : _ = 11) ?_
    exact J11 _ (1 : Int32) C0 (by simp only [if_neg c3])
set_option maxRecDepth 65536 in
set_option maxHeartbeats 40000000 in
theorem comes_1 {Post : Tables → Env → Array Value → State → Outcome → State → Prop} (hpost : ∀ tb e args s v u, (limb_1_1.after args s (.returned v) u = true ∧ limb_1_2.after args s (.returned v) u = true ∧ True) → FrameEnd s (.returned v) u (Jvm.fieldLocs frame_1_writes args s ++ Jvm.arrayLocs frame_1_arrays args s ++ Jvm.staticLocs frame_1_statics s) 16 128 → Post tb e args s (.returned v) u) :
    ArmFor flags0 classFile x code maxLocals ret World_1 tables_1 room_1 Calls_1 rest_1 Pre_1 Post := by
  intro l hfl _ _ p e ha hc hk s m args below hf hA hF happ hP
  obtain ⟨hcalls, hrest, hpre⟩ := hP
  obtain ⟨-, -, -, hnamed, -, -, -, hat⟩ := (Spec.applies_iff hf).mp happ
  obtain ⟨hg, hn⟩ := and_e (Cond.before_iff.mp (show (Jvm.Cond.and given_1 narrow_1).before args s = true from hpre))
  obtain ⟨g1, g2⟩ := and_e hg
  obtain ⟨g3, g4⟩ := and_e g2
  obtain ⟨g5, g6⟩ := and_e g4
  obtain ⟨g7, g8⟩ := and_e g6
  obtain ⟨w0, w1, w2, w3, rfl⟩ : ∃ w0 w1 w2 w3 : Value, args = #[w0, w1, w2, w3] := by
    have hs : args.size = 4 := by simpa [Cond.value, given_1] using g1
    obtain ⟨L⟩ := args
    match L, hs with
    | [w0, w1, w2, w3], _ => exact ⟨w0, w1, w2, w3, rfl⟩
  have hw := fun d (hd : d ∈ tables_1) => atoms_spec (ws := Jvm.Cond.code x code maxLocals ret :: tables_1) hat d (List.mem_cons_of_mem _ hd)
  have hfit : Fit s := fun {y c} hc i hi => by
    obtain ⟨ha, rfl⟩ := Array.getElem?_eq_some_iff.mp hc
    have q := List.all_eq_true.mp ((Array.all_eq_true_iff_forall_mem.mp hF) _ (Array.getElem_mem ha)) i (List.mem_range.mpr hi)
    simpa [Array.getElem?_eq_getElem hi] using q
  obtain ⟨i0, ei0⟩ := is_v g3
  obtain rfl : w0 = (.int i0) := Option.some.inj ei0
  obtain ⟨i1, ei1⟩ := is_v g5
  obtain rfl : w1 = (.int i1) := Option.some.inj ei1
  obtain ⟨i2, ei2⟩ := is_v g7
  obtain rfl : w2 = (.int i2) := Option.some.inj ei2
  obtain ⟨i3, ei3⟩ := is_v g8
  obtain rfl : w3 = (.int i3) := Option.some.inj ei3
  obtain ⟨n, o, h1, h2, h3, _, L, rfl, ⟨⟨rfl, -⟩, N⟩, hq⟩ := rm0 l s _ hw i0 i1 i2 i3 s.heap s.heap.size (Nat.le_refl _) tables_1 p e ha hc hk s m _ below hf ((Spec.applies_iff_loose hf).mp happ).1 ⟨rfl, State.Warmed39.refl s, rfl⟩ trivial
  refine ⟨n, _, h1, h2, h3, hpost _ _ _ _ _ _ ⟨Cond.after_iff.mpr rfl, Cond.after_iff.mpr (eq_i res_at (Term.int_eval (1)) rfl), trivial⟩ ⟨hq.1, hq.2.1, (hq.2.2.sift fun y hy => Or.inr (N y hy)).mono (by decide) (by decide)⟩⟩
theorem main_1_1 : Claimed_1_1 := comes_1 fun _ _ _ _ _ _ h hF => ⟨h.1, hF⟩
theorem main_1_2 : Claimed_1_2 := comes_1 fun _ _ _ _ _ _ h hF => ⟨h.2.1, hF⟩
end Jvm.Pilot.@@N@@
namespace Jvm.Pilot.@@N@@
open Jvm Jvm.ClassFile Sem Op Lib Jvm.Free Jvm.Stand Jvm.Pilot.@@N@@.Jvm.D
/-! MADE BY PROGRAM (witnessworld.py) out of the Statement's table words and the real class files: 9 classes; the members and pool entries that the words name. The judged class is class 1, her method 2. -/
namespace start1
open Jvm.ClassFile
def u (s : String) : CpInfo := .utf8 (stringToUtf16 s)
/-- a pool by its gaps: so many unusable entries, then the entry; so many at the end -/
def gap : Nat → List CpInfo → List CpInfo
  | 0, r => r
  | n + 1, r => .unusable :: gap n r
def poolList (es : List (Nat × CpInfo)) (last : Nat) : List CpInfo := es.foldr (fun e r => gap e.1 (e.2 :: r)) (gap last [])
def pool (es : List (Nat × CpInfo)) (last : Nat) : Array CpInfo := ⟨poolList es last⟩
def fileOf (pool : Array CpInfo) (this : Nat) (attrs : Array Attribute := #[]) (ms : Array MethodInfo := #[]) (fl : Nat := 33) (sup : Nat := 0) (ifs : Array Nat := #[]) (fds : Array FieldInfo := #[]) : ClassFile where
  minorVersion := 0
  majorVersion := 65
  constantPool := pool
  accessFlags := fl
  thisClass := this
  superClass := sup
  interfaces := ifs
  fields := fds
  methods := ms
  attributes := attrs
def plain (name : String) (sup : Option ClassId) : Class where
  name := name
  kind := .ordinary
  loader := none
  accessFlags := 33
  super := sup
  interfaces := #[]
  cf := none
  fields := #[]
  methods := #[]
  instanceTypes := #[]
  staticTypes := #[]
  resolved := #[]
  callSites := []
  init := .initialized
  statics := none
  mirror := none

def pool0 : Array CpInfo := pool [(5, u "<init>"), (0, u "()V"), (1, .class_ 10), (1, u "java/lang/Object")] 113

def k0m0 : Method := { name := "<init>", desc := "()V", sig := { parameters := [], returnType := none }, accessFlags := 1, code := none }
/-- java/lang/Object -/
def k0 : Class := { plain "java/lang/Object" none with
  accessFlags := 33
  interfaces := #[]
  cf := some (fileOf pool0 8 #[] #[{ accessFlags := 1, nameIndex := 5, descriptorIndex := 6, attributes := #[] }] 33 0 #[] #[])
  fields := #[]
  methods := #[k0m0]
  instanceTypes := #[]
  staticTypes := #[]
  resolved := Array.replicate 124 none
  statics := none }

def pool1 : Array CpInfo := pool [(2, .class_ 4), (1, u "java/lang/Object"), (0, u "<init>"), (0, u "()V"), (0, .methodref 8 9), (0, .class_ 10), (0, .nameAndType 11 12), (0, u "com/example/exdate/exdate/ValuesIsPlainTextPinLaw"), (0, u "dig"), (0, u "(II)I"), (0, .methodref 14 15), (0, .class_ 16), (0, .nameAndType 17 18), (0, u "com/example/exdate/exdate/Values"), (0, u "isPlainText"), (0, u "([BII)Z"), (2, u "law"), (0, u "(IIII)Z")] 5

def k1m0 : Method := { name := "<init>", desc := "()V", sig := { parameters := [], returnType := none }, accessFlags := 2, code := none }
def k1c1 : Code := { maxStack := 3, maxLocals := 2, code := method_2_code, exceptionTable := #[], attributes := #[] }
def k1m1 : Method := { name := "dig", desc := "(II)I", sig := { parameters := [.int, .int], returnType := some .int }, accessFlags := 10, code := some k1c1 }
def k1c2 : Code := { maxStack := 4, maxLocals := 21, code := code, exceptionTable := #[], attributes := #[] }
def k1m2 : Method := { name := "law", desc := "(IIII)Z", sig := { parameters := [.int, .int, .int, .int], returnType := some .boolean }, accessFlags := 9, code := some k1c2 }
/-- com/example/exdate/exdate/ValuesIsPlainTextPinLaw -/
def k1 : Class := { plain "com/example/exdate/exdate/ValuesIsPlainTextPinLaw" (some 0) with
  accessFlags := 49
  interfaces := #[]
  cf := some (fileOf pool1 8 #[] #[{ accessFlags := 2, nameIndex := 5, descriptorIndex := 6, attributes := #[] }, { accessFlags := 10, nameIndex := 11, descriptorIndex := 12, attributes := #[] }, { accessFlags := 9, nameIndex := 21, descriptorIndex := 22, attributes := #[] }] 49 2 #[] #[])
  fields := #[]
  methods := #[k1m0, k1m1, k1m2]
  instanceTypes := #[]
  staticTypes := #[]
  resolved := Array.replicate 28 none
  statics := none }

def pool2 : Array CpInfo := pool [(1, .class_ 2), (0, u "com/example/exdate/exdate/Values"), (1, .class_ 6), (1, u "java/lang/Object"), (0, u "<init>"), (0, u "()V"), (51, u "([BII)Z"), (180, u "UNDERLYING_FORM"), (0, u "Ljava/lang/String;"), (3, u "UNDERLYING_PROBLEM"), (2, u "MAX_WRITTEN_SCALE"), (0, u "I"), (1, u "PLAIN_TEXT_ROOM"), (1, u "DATE_FORM"), (2, u "SYMBOLS_FORM"), (11, u "isPlainText")] 19

def k2m0 : Method := { name := "<init>", desc := "()V", sig := { parameters := [], returnType := none }, accessFlags := 2, code := none }
def k2c1 : Code := { maxStack := 3, maxLocals := 5, code := prog_32_method_9_code, exceptionTable := #[], attributes := #[] }
def k2m1 : Method := { name := "isPlainText", desc := "([BII)Z", sig := { parameters := [(.array .byte), .int, .int], returnType := some .boolean }, accessFlags := 8, code := some k2c1 }
/-- com/example/exdate/exdate/Values -/
def k2 : Class := { plain "com/example/exdate/exdate/Values" (some 0) with
  accessFlags := 48
  interfaces := #[]
  cf := some (fileOf pool2 1 #[] #[{ accessFlags := 2, nameIndex := 7, descriptorIndex := 8, attributes := #[] }, { accessFlags := 8, nameIndex := 269, descriptorIndex := 60, attributes := #[] }] 48 4 #[] #[{ accessFlags := 24, nameIndex := 241, descriptorIndex := 242, attributes := #[] }, { accessFlags := 24, nameIndex := 246, descriptorIndex := 242, attributes := #[] }, { accessFlags := 26, nameIndex := 249, descriptorIndex := 250, attributes := #[] }, { accessFlags := 24, nameIndex := 252, descriptorIndex := 250, attributes := #[] }, { accessFlags := 24, nameIndex := 254, descriptorIndex := 242, attributes := #[] }, { accessFlags := 24, nameIndex := 257, descriptorIndex := 242, attributes := #[] }])
  fields := #[{ name := "UNDERLYING_FORM", type := (.object "java/lang/String"), accessFlags := 24, slot := 0, constantValue := 0 }, { name := "UNDERLYING_PROBLEM", type := (.object "java/lang/String"), accessFlags := 24, slot := 1, constantValue := 0 }, { name := "MAX_WRITTEN_SCALE", type := .int, accessFlags := 26, slot := 2, constantValue := 0 }, { name := "PLAIN_TEXT_ROOM", type := .int, accessFlags := 24, slot := 3, constantValue := 0 }, { name := "DATE_FORM", type := (.object "java/lang/String"), accessFlags := 24, slot := 4, constantValue := 0 }, { name := "SYMBOLS_FORM", type := (.object "java/lang/String"), accessFlags := 24, slot := 5, constantValue := 0 }]
  methods := #[k2m0, k2m1]
  instanceTypes := #[]
  staticTypes := #[(.object "java/lang/String"), (.object "java/lang/String"), .int, .int, (.object "java/lang/String"), (.object "java/lang/String")]
  resolved := Array.replicate 289 none
  statics := none }

def pool3 : Array CpInfo := pool [(1, u "java/lang/Cloneable"), (0, .class_ 1), (0, u "java/lang/Object"), (0, .class_ 3)] 3

/-- java/lang/Cloneable -/
def k3 : Class := { plain "java/lang/Cloneable" (some 0) with
  accessFlags := 1537
  interfaces := #[]
  cf := some (fileOf pool3 2 #[] #[] 1537 4 #[] #[])
  fields := #[]
  methods := #[]
  instanceTypes := #[]
  staticTypes := #[]
  resolved := Array.replicate 8 none
  statics := none }

def pool4 : Array CpInfo := pool [(1, u "java/io/Serializable"), (0, .class_ 1), (0, u "java/lang/Object"), (0, .class_ 3)] 3

/-- java/io/Serializable -/
def k4 : Class := { plain "java/io/Serializable" (some 0) with
  accessFlags := 1537
  interfaces := #[]
  cf := some (fileOf pool4 2 #[] #[] 1537 4 #[] #[])
  fields := #[]
  methods := #[]
  instanceTypes := #[]
  staticTypes := #[]
  resolved := Array.replicate 8 none
  statics := none }

/-- the primitive byte -/
def k5 : Class := { plain "byte" none with kind := .primitive 'B', accessFlags := 0x411 }
/-- [B -/
def k6 : Class := { plain "[B" (some 0) with kind := .array 5 .byte, interfaces := #[3, 4], accessFlags := 1041 }

/-- the primitive int -/
def k7 : Class := { plain "int" none with kind := .primitive 'I', accessFlags := 0x411 }
/-- [I -/
def k8 : Class := { plain "[I" (some 0) with kind := .array 7 .int, interfaces := #[3, 4], accessFlags := 1041 }

def heap : Heap := #[]
def classes : Array Class := #[k0, k1, k2, k3, k4, k5, k6, k7, k8]
def interned : List (Array UInt16 × Addr) := []
def slotsUsed : Nat := 0
def theMethod : MethodId := ⟨1, 2⟩
def args0 : Array Value := #[.int 5, .int 7, .int 9, .int 1]
def aboutOver (below : List Frame) : State where
  vm := { classes := classes, interned := interned.toArray }
  heap := heap
  slotsUsed := slotsUsed
  threads := #[{ frames := .invoking theMethod args0 :: below }]
def below0 : List Frame := [.native { method := ⟨0, 0⟩, args := #[] }]
def about1 : State := aboutOver below0
def p0 : Program := .bare "" "" ""
def e0 : Env := launch0.env 0 0 0
theorem w_frames : about1.frames = Frame.invoking theMethod args0 :: below0 := rfl
set_option maxRecDepth 65536 in
theorem w_args : argsFit about1.vm theMethod args0 = true := by decide +kernel
set_option maxRecDepth 65536 in
theorem w_heap : heapFits about1 = true := by decide +kernel
set_option maxRecDepth 65536 in
theorem w_runnable : about1.curStatus? = some .runnable := by decide +kernel
set_option maxRecDepth 65536 in
theorem w_alone : about1.alone = true := by decide +kernel
set_option maxRecDepth 65536 in
theorem w_named : about1.methodNamed? x = some theMethod := by decide +kernel
set_option maxRecDepth 65536 in
theorem w_hears : about1.hears theMethod below0 = true := by decide +kernel
set_option maxRecDepth 65536 in
theorem w_ripe : about1.ripe theMethod args0 below0 = true := by decide +kernel
theorem w_running : about1.status = .running := rfl
set_option maxRecDepth 65536 in
theorem w_room : about1.hasRoom e0.platform room_1 = true :=
  launch0.hasRoom_least _ room_1 (by decide +kernel) (by decide +kernel) (by decide +kernel) (by decide +kernel) (by decide +kernel) (by decide +kernel)
theorem allAtoms_all (ts : List Jvm.Cond) (a : Array Jvm.Value) (st : Jvm.State) : (allAtoms ts).before a st = ts.all (fun c => c.before a st) := by
  induction ts with
  | nil => rfl
  | cons c t ih =>
    show (Jvm.Cond.and c (allAtoms t)).before a st = _
    rw [Jvm.Cond.before_and, ih, List.all_cons]
def words1 : List Jvm.Cond := Jvm.Cond.code x code maxLocals ret :: tables_1
/-- a 'code' word, met by the world's own term for the bytes: nothing is compared byte by byte -/
theorem code_word {y : MethodName} {bytes : ByteArray} {mx : Nat} {rt : Option FieldType} {a : Array Value} {s : State} {m : MethodId} {meth : Method} {c : Code} (h1 : s.methodNamed? y = some m) (h2 : s.vm.method? m = some meth) (h3 : meth.code = some c) (h4 : c.code = bytes)
    (h5 : (c.maxLocals == mx && c.exceptionTable.isEmpty && decide (c.maxStack ≤ mostOperands) && decide (meth.sig.returnType = rt) && !meth.locks && decide (parseMethodDescriptor y.desc = some meth.sig)) = true) : (Jvm.Cond.code y bytes mx rt).before a s = true := by
  simp only [Bool.and_eq_true, beq_iff_eq, Bool.not_eq_true', decide_eq_true_eq] at h5
  obtain ⟨⟨⟨⟨⟨g1, g2⟩, g3⟩, g4⟩, g5⟩, g6⟩ := h5
  simp [Cond.before, Cond.holds, Cond.value, h1, h2, h3, h4, g1, g2, g3, g4, g5, g6]
def isCode : Jvm.Cond → Bool
  | .code _ _ _ _ => true
  | _ => false
theorem all_split {L : List Jvm.Cond} {P : Jvm.Cond → Bool} (h1 : L.all (fun c => isCode c || P c) = true) (h2 : ∀ c ∈ L.filter isCode, P c = true) : L.all P = true := by
  refine List.all_eq_true.mpr fun c hc => ?_
  have h := List.all_eq_true.mp h1 c hc
  rcases Bool.eq_false_or_eq_true (isCode c) with hi | hi
  · exact h2 c (List.mem_filter.mpr ⟨hc, hi⟩)
  · simpa [hi] using h
set_option maxRecDepth 65536 in
theorem w_c0 : (Jvm.Cond.code x code maxLocals ret).before args0 about1 = true := code_word (m := ⟨1, 2⟩) (meth := k1m2) (c := k1c2) (by decide +kernel) rfl rfl rfl (by decide +kernel)
set_option maxRecDepth 65536 in
theorem w_c1 : (Jvm.Cond.code ({ cls := "com/example/exdate/exdate/ValuesIsPlainTextPinLaw", name := "dig", desc := "(II)I" } : Jvm.MethodName) method_2_code (2 : Nat) (Option.some Jvm.ClassFile.FieldType.int)).before args0 about1 = true := code_word (m := ⟨1, 1⟩) (meth := k1m1) (c := k1c1) (by decide +kernel) rfl rfl rfl (by decide +kernel)
set_option maxRecDepth 65536 in
theorem w_c2 : (Jvm.Cond.code ({ cls := "com/example/exdate/exdate/Values", name := "isPlainText", desc := "([BII)Z" } : Jvm.MethodName) prog_32_method_9_code (5 : Nat) (Option.some Jvm.ClassFile.FieldType.boolean)).before args0 about1 = true := code_word (m := ⟨2, 1⟩) (meth := k2m1) (c := k2c1) (by decide +kernel) rfl rfl rfl (by decide +kernel)
def codes1 : List Jvm.Cond := [Jvm.Cond.code x code maxLocals ret, Jvm.Cond.code ({ cls := "com/example/exdate/exdate/ValuesIsPlainTextPinLaw", name := "dig", desc := "(II)I" } : Jvm.MethodName) method_2_code (2 : Nat) (Option.some Jvm.ClassFile.FieldType.int), Jvm.Cond.code ({ cls := "com/example/exdate/exdate/Values", name := "isPlainText", desc := "([BII)Z" } : Jvm.MethodName) prog_32_method_9_code (5 : Nat) (Option.some Jvm.ClassFile.FieldType.boolean)]
set_option maxRecDepth 65536 in
theorem codes_eq : words1.filter isCode = codes1 := rfl
theorem w_codes : ∀ c ∈ words1.filter isCode, c.before args0 about1 = true := by
  rw [codes_eq]
  intro c hc
  simp only [codes1, List.mem_cons, List.not_mem_nil, or_false] at hc
  rcases hc with rfl | rfl | rfl
  · exact w_c0
  · exact w_c1
  · exact w_c2
set_option maxRecDepth 65536 in
theorem w_t1 : words1.all (fun c => isCode c || c.before args0 about1) = true := by decide +kernel
theorem w_tables : (allAtoms (Jvm.Cond.code x code maxLocals ret :: tables_1)).before args0 about1 = true := by
  rw [allAtoms_all]
  show words1.all (fun c => c.before args0 about1) = true
  refine all_split ?_ w_codes
  rw [w_t1]
set_option maxRecDepth 65536 in
theorem w_case : (Jvm.Cond.and given_1 narrow_1).before args0 about1 = true := by decide +kernel
theorem w_applies : (headSpec (Jvm.Cond.code x code maxLocals ret :: tables_1) room_1).applies x e0.platform about1 = true :=
  (Spec.applies_iff w_frames).mpr ⟨w_running, w_runnable, w_alone, w_named, w_hears, w_ripe, w_room, w_tables⟩
theorem atStart : AtStart classFile x code maxLocals ret World_1 tables_1 room_1 Calls_1 rest_1 Pre_1 launch0 p0 e0 about1 theMethod args0 below0 :=
  ⟨lists_1, trivial, launch0.admits_env _ _ _, launch0.least_env, fairChoices_fair.cas, fairChoices_fair.clock, w_frames, w_args, w_heap, w_applies, trivial, trivial, w_case⟩
end start1
theorem witness_1 : WitnessClaimed_1 := ⟨start1.p0, start1.e0, start1.about1, start1.theMethod, start1.args0, start1.below0, start1.atStart⟩
end Jvm.Pilot.@@N@@
