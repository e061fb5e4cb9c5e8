import JvmDerived
import JvmDerived.Pilot.@@N@@Statement
import JvmDerived.Pilot.@@N@@Code
set_option linter.unusedVariables false
set_option linter.unusedSimpArgs false
namespace Jvm.Ow
open Sem ClassFile Op Lib Jvm.Stand Jvm.Free Jvm.LawKit Jvm.RoadKit
def WideEnd (s : State) (o : Outcome) (t : State) (L : List Loc) (k n : Nat) : Prop :=
  (∃ v : Option Value, o = Outcome.returned v) ∧ s.Warmed39 t.vm ∧ (∀ (j : Nat) (p : Array UInt16 × Addr), s.vm.interned.size ≤ j → t.vm.interned[j]? = some p → s.heap.size ≤ p.2 ∧ p.2 < t.heap.size) ∧ s.sameButNew { t with vm := s.vm } L k n
def EndF (wd : Bool) (s : State) (o : Outcome) (t : State) (L : List Loc) (k n : Nat) : Prop := match wd with
  | true => WideEnd s o t L k n
  | false => FrameEnd s o t L k n
theorem EndF.of {wd : Bool} {s : State} {o : Outcome} {t : State} {L : List Loc} {k n : Nat} (h : FrameEnd s o t L k n) : EndF wd s o t L k n := by
  cases wd
  · exact h
  · exact wide h
def Cx (p : Program) (l : Launch) (e : Env) (R : Room) (m : MethodId) (args : Array Value) (below : List Frame) (meth : Method) (c : Code) (Z : State) (y : MethodName) (bytes : ByteArray) (ml : Nat) (ret : Option FieldType) (n0 : Nat) (wd : Bool) (F : Outcome → State → List Loc → Prop) (T : State) (h : Heap) (cells slots : Nat) : Prop :=
  ∃ s locs, Stand p l e R s m args below meth c T locs cells slots ∧ p.tables.exec = Jvm.exec ∧ c.code = bytes ∧ c.maxLocals = ml ∧ Z.Warmed39 s.vm ∧ s.vm.findClass y.cls = some m.cls ∧ meth.name = y.name ∧ meth.sig.returnType = ret ∧ meth.locks = false ∧ T.heap = h ∧ Fr n0 locs ∧ n0 ≤ s.heap.size ∧ ∀ o t L, h.size ≤ t.heap.size → EndF wd s o t L R.cells R.slots → F o t L
def Go (p : Program) (e : Env) (below : List Frame) (F : Outcome → State → List Loc → Prop) (n0 : Nat) (Q : Option Value → Heap → Prop) (T : State) (f : JFrame) : Prop :=
  ∃ s₂ o, Steps p.tables e below (T.setTop f) s₂ ∧ s₂.status = .running ∧ Ended s₂ below o ∧ ∃ v L, o = .returned v ∧ (Q v s₂.heap ∧ Fr n0 L ∧ n0 ≤ s₂.heap.size) ∧ F o s₂ L
def Ctr (l : Launch) (Z : State) (y : MethodName) (bytes : ByteArray) (ml : Nat) (ret : Option FieldType) (R : Room) (as' : Array Value) (h : Heap) (n0 : Nat) (Q : Option Value → Heap → Prop) : Prop :=
  ∀ ws : List Jvm.Cond, MetFree l y (head1 (Jvm.Cond.code y bytes ml ret :: ws) R) (fun a U => a = as' ∧ Z.Warmed39 U.vm ∧ U.heap = h) (fun _ _ _ _ _ => True) (fun _ U o U' => ∃ v L, o = .returned v ∧ ((Q v U'.heap ∧ h.size ≤ U'.heap.size) ∧ Fr n0 L) ∧ FrameEnd U o U' L R.cells R.slots)
section Layer
variable {p : Program} {l : Launch} {e : Env} {R : Room} {m : MethodId} {args : Array Value} {below : List Frame} {meth : Method} {c : Code} {T T' : State} {cells slots : Nat} {Z : State} {a0 : Array Value} {h : Heap} {y : MethodName} {bytes : ByteArray} {ml n0 : Nat} {ret : Option FieldType} {wd : Bool} {F : Outcome → State → List Loc → Prop} {Q : Option Value → Heap → Prop} {pc pc' : Nat} {L L' : Array Slot} {S : List Value}
theorem Ctr.body {as' : Array Value} (hpl : plainFor y = true) (hn : n0 ≤ h.size) (ef : ∀ m, entryFrame m as' ml = mkF m 0 L [])
    (k : ∀ (p : Program) (e : Env) (F : Outcome → State → List Loc → Prop) (m : MethodId) (below : List Frame) (meth : Method) (c : Code) (T : State), Cx p l e R m as' below meth c Z y bytes ml ret n0 false F T h 0 0 → Go p e below F n0 Q T (mkF m 0 L [])) : Ctr l Z y bytes ml ret R as' h n0 Q := by
  intro ws
  refine MetFree.of_bodySF hpl hisR ?_
  intro p e s m args below meth c s₁ Bd hml0 hP hK
  obtain ⟨rfl, hZ, hh⟩ := hP
  obtain ⟨s₂, o, g1, g2, g3, v, L9, g4, ⟨g5, g6, -⟩, g7⟩ := k p e (fun o t L => FrameEnd s o t L R.cells R.slots) m below meth c s₁ ⟨s, [], Stand.of_body Bd, Bd.exec, Bd.bytes, hml0, hZ, findClass_of_methodNamed Bd.named, (name_of_methodNamed Bd.named Bd.method).1, Bd.returns, Bd.notSynchronized, by rw [← hh, Bd.state]; rfl, Fr.nil n0, by rw [hh]; exact hn, fun _ _ _ _ q => q⟩
  rw [ef m]
  exact ⟨s₂, o, g1, g2, g3, v, L9, g4, ⟨⟨g5, by rw [← hh]; exact g7.2.2.2.1⟩, g6⟩, g7⟩
theorem Go.via {f f' : JFrame} (k : Go p e below F n0 Q T' f') (hs : ∀ t, Steps p.tables e below (T'.setTop f') t → Steps p.tables e below (T.setTop f) t) : Go p e below F n0 Q T f := by
  obtain ⟨s₂, o, h1, h2⟩ := k; exact ⟨s₂, o, hs _ h1, h2⟩
theorem Cx.size (C : Cx p l e R m args below meth c Z y bytes ml ret n0 wd F T h cells slots) : n0 ≤ h.size := by
  obtain ⟨s, locs, X, -, -, -, -, -, -, -, -, rfl, -, hn, -⟩ := C
  exact Nat.le_trans hn X.same.2.1
theorem Cx.iloadN (C : Cx p l e R m args below meth c Z y bytes ml ret n0 wd F T h cells slots) {k : Fin 4} {v : Int32} (hd : decode bytes pc = .ok (.iload_n k, 1)) (hp : pc + 1 = pc') (hl : L[k.val]? = some (.val (.int v))) (K : Go p e below F n0 Q T (mkF m pc' L (.int v :: S))) : Go p e below F n0 Q T (mkF m pc L S) := by
  obtain ⟨s, locs, X, hx, rfl, -⟩ := C; subst hp
  exact K.via fun t k => XS.iloadN X.here hx rfl hd hl k
theorem Cx.iload (C : Cx p l e R m args below meth c Z y bytes ml ret n0 wd F T h cells slots) {k : Nat} {v : Int32} (hd : decode bytes pc = .ok (.iload k, 2)) (hp : pc + 2 = pc') (hl : L[k]? = some (.val (.int v))) (K : Go p e below F n0 Q T (mkF m pc' L (.int v :: S))) : Go p e below F n0 Q T (mkF m pc L S) := by
  obtain ⟨s, locs, X, hx, rfl, -⟩ := C; subst hp
  exact K.via fun t k => XS.iload X.here hx rfl hd hl k
theorem Cx.istoreN (C : Cx p l e R m args below meth c Z y bytes ml ret n0 wd F T h cells slots) {k : Fin 4} {x : Int32} (hd : decode bytes pc = .ok (.istore_n k, 1)) (hp : pc + 1 = pc') (hl : storeLocals L k.val (.int x) = some L') (K : Go p e below F n0 Q T (mkF m pc' L' S)) : Go p e below F n0 Q T (mkF m pc L (.int x :: S)) := by
  obtain ⟨s, locs, X, hx, rfl, -⟩ := C; subst hp
  exact K.via fun t k => XS.istoreN X.here hx rfl hd rfl hl k
theorem Cx.istore (C : Cx p l e R m args below meth c Z y bytes ml ret n0 wd F T h cells slots) {k : Nat} {x : Int32} (hd : decode bytes pc = .ok (.istore k, 2)) (hp : pc + 2 = pc') (hl : storeLocals L k (.int x) = some L') (K : Go p e below F n0 Q T (mkF m pc' L' S)) : Go p e below F n0 Q T (mkF m pc L (.int x :: S)) := by
  obtain ⟨s, locs, X, hx, rfl, -⟩ := C; subst hp
  exact K.via fun t k => XS.istore X.here hx rfl hd rfl hl k
theorem Cx.istoreV (C : Cx p l e R m args below meth c Z y bytes ml ret n0 wd F T h cells slots) {k : Nat} {x : Int32} (Lf : Int32 → Array Slot) (hd : decode bytes pc = .ok (.istore k, 2)) (hp : pc + 2 = pc') (hl : ∀ v, storeLocals L k (.int v) = some (Lf v)) (K : ∀ v, v = x → Go p e below F n0 Q T (mkF m pc' (Lf v) S)) : Go p e below F n0 Q T (mkF m pc L (.int x :: S)) :=
  C.istore hd hp (hl x) (K x rfl)
theorem Cx.aloadN (C : Cx p l e R m args below meth c Z y bytes ml ret n0 wd F T h cells slots) {k : Fin 4} {v : Value} (hd : decode bytes pc = .ok (.aload_n k, 1)) (hp : pc + 1 = pc') (hl : L[k.val]? = some (.val v)) (hv : v.isRef = true) (K : Go p e below F n0 Q T (mkF m pc' L (v :: S))) : Go p e below F n0 Q T (mkF m pc L S) := by
  obtain ⟨s, locs, X, hx, rfl, -⟩ := C; subst hp
  exact K.via fun t k => XS.aloadN X.here hx rfl hd hl hv k
theorem Cx.aload (C : Cx p l e R m args below meth c Z y bytes ml ret n0 wd F T h cells slots) {k : Nat} {v : Value} (hd : decode bytes pc = .ok (.aload k, 2)) (hp : pc + 2 = pc') (hl : L[k]? = some (.val v)) (hv : v.isRef = true) (K : Go p e below F n0 Q T (mkF m pc' L (v :: S))) : Go p e below F n0 Q T (mkF m pc L S) := by
  obtain ⟨s, locs, X, hx, rfl, -⟩ := C; subst hp
  exact K.via fun t k => XS.aload X.here hx rfl hd hl hv k
theorem Cx.astore (C : Cx p l e R m args below meth c Z y bytes ml ret n0 wd F T h cells slots) {k : Nat} {x : Value} (hd : decode bytes pc = .ok (.astore k, 2)) (hp : pc + 2 = pc') (hv : x.isRef = true) (hl : storeLocals L k x = some L') (K : Go p e below F n0 Q T (mkF m pc' L' S)) : Go p e below F n0 Q T (mkF m pc L (x :: S)) := by
  obtain ⟨s, locs, X, hx, rfl, -⟩ := C; subst hp
  exact K.via fun t k => XS.astore X.here hx rfl hd rfl hv hl k
theorem Cx.iconst (C : Cx p l e R m args below meth c Z y bytes ml ret n0 wd F T h cells slots) {i : Int} (v : Int32) (hd : decode bytes pc = .ok (.iconst i, 1)) (hp : pc + 1 = pc') (hv : Int32.ofInt i = v) (K : Go p e below F n0 Q T (mkF m pc' L (.int v :: S))) : Go p e below F n0 Q T (mkF m pc L S) := by
  obtain ⟨s, locs, X, hx, rfl, -⟩ := C; subst hp
  exact K.via fun t k => XT.iconstV X.here hx rfl v hd hv k
theorem Cx.bipush (C : Cx p l e R m args below meth c Z y bytes ml ret n0 wd F T h cells slots) {i : Int} (v : Int32) (hd : decode bytes pc = .ok (.bipush i, 2)) (hp : pc + 2 = pc') (hv : (Int8.ofInt i).toInt32 = v) (K : Go p e below F n0 Q T (mkF m pc' L (.int v :: S))) : Go p e below F n0 Q T (mkF m pc L S) := by
  obtain ⟨s, locs, X, hx, rfl, -⟩ := C; subst hp
  exact K.via fun t k => XT.bipushV X.here hx rfl v hd hv k
theorem Cx.iinc (C : Cx p l e R m args below meth c Z y bytes ml ret n0 wd F T h cells slots) {k : Nat} {cst : Int} {x : Int32} (v : Int32) (hd : decode bytes pc = .ok (.iinc k cst, 3)) (hp : pc + 3 = pc') (hv : Int32.ofInt cst = v) (hl : L[k]? = some (.val (.int x))) (hl' : storeLocals L k (.int (x + v)) = some L') (K : Go p e below F n0 Q T (mkF m pc' L' S)) : Go p e below F n0 Q T (mkF m pc L S) := by
  obtain ⟨s, locs, X, hx, rfl, -⟩ := C; subst hp
  exact K.via fun t k => XT.iincV X.here hx rfl v hd hv hl hl' k
theorem Cx.iadd (C : Cx p l e R m args below meth c Z y bytes ml ret n0 wd F T h cells slots) {x z : Int32} (hd : decode bytes pc = .ok (.iadd, 1)) (hp : pc + 1 = pc')  (K : Go p e below F n0 Q T (mkF m pc' L (.int (x + z) :: S))) : Go p e below F n0 Q T (mkF m pc L (.int z :: .int x :: S)) := by
  obtain ⟨s, locs, X, hx, rfl, -⟩ := C; subst hp
  exact K.via fun t k => XS.iadd X.here hx rfl hd rfl k
theorem Cx.isub (C : Cx p l e R m args below meth c Z y bytes ml ret n0 wd F T h cells slots) {x z : Int32} (hd : decode bytes pc = .ok (.isub, 1)) (hp : pc + 1 = pc')  (K : Go p e below F n0 Q T (mkF m pc' L (.int (x - z) :: S))) : Go p e below F n0 Q T (mkF m pc L (.int z :: .int x :: S)) := by
  obtain ⟨s, locs, X, hx, rfl, -⟩ := C; subst hp
  exact K.via fun t k => XS.isub X.here hx rfl hd rfl k
theorem Cx.imul (C : Cx p l e R m args below meth c Z y bytes ml ret n0 wd F T h cells slots) {x z : Int32} (hd : decode bytes pc = .ok (.imul, 1)) (hp : pc + 1 = pc')  (K : Go p e below F n0 Q T (mkF m pc' L (.int (x * z) :: S))) : Go p e below F n0 Q T (mkF m pc L (.int z :: .int x :: S)) := by
  obtain ⟨s, locs, X, hx, rfl, -⟩ := C; subst hp
  exact K.via fun t k => XS.imul X.here hx rfl hd rfl k
theorem Cx.iand (C : Cx p l e R m args below meth c Z y bytes ml ret n0 wd F T h cells slots) {x z : Int32} (hd : decode bytes pc = .ok (.iand, 1)) (hp : pc + 1 = pc')  (K : Go p e below F n0 Q T (mkF m pc' L (.int (x &&& z) :: S))) : Go p e below F n0 Q T (mkF m pc L (.int z :: .int x :: S)) := by
  obtain ⟨s, locs, X, hx, rfl, -⟩ := C; subst hp
  exact K.via fun t k => XS.iand X.here hx rfl hd rfl k
theorem Cx.ishr (C : Cx p l e R m args below meth c Z y bytes ml ret n0 wd F T h cells slots) {x z : Int32} (hd : decode bytes pc = .ok (.ishr, 1)) (hp : pc + 1 = pc')  (K : Go p e below F n0 Q T (mkF m pc' L (.int (x >>> (z &&& 31)) :: S))) : Go p e below F n0 Q T (mkF m pc L (.int z :: .int x :: S)) := by
  obtain ⟨s, locs, X, hx, rfl, -⟩ := C; subst hp
  exact K.via fun t k => XT.ishr X.here hx rfl hd rfl k
theorem Cx.iushr (C : Cx p l e R m args below meth c Z y bytes ml ret n0 wd F T h cells slots) {x z : Int32} (hd : decode bytes pc = .ok (.iushr, 1)) (hp : pc + 1 = pc')  (K : Go p e below F n0 Q T (mkF m pc' L (.int ((x.toUInt32 >>> (z &&& 31).toUInt32).toInt32) :: S))) : Go p e below F n0 Q T (mkF m pc L (.int z :: .int x :: S)) := by
  obtain ⟨s, locs, X, hx, rfl, -⟩ := C; subst hp
  exact K.via fun t k => XS.iushr X.here hx rfl hd rfl k
theorem Cx.irem (C : Cx p l e R m args below meth c Z y bytes ml ret n0 wd F T h cells slots) {x z : Int32} (hd : decode bytes pc = .ok (.irem, 1)) (hp : pc + 1 = pc') (hz : z ≠ 0) (K : Go p e below F n0 Q T (mkF m pc' L (.int (x % z) :: S))) : Go p e below F n0 Q T (mkF m pc L (.int z :: .int x :: S)) := by
  obtain ⟨s, locs, X, hx, rfl, -⟩ := C; subst hp
  exact K.via fun t k => iremM X hx rfl hd rfl hz k
theorem Cx.i2b (C : Cx p l e R m args below meth c Z y bytes ml ret n0 wd F T h cells slots) {x : Int32} (hd : decode bytes pc = .ok (.i2b, 1)) (hp : pc + 1 = pc')  (K : Go p e below F n0 Q T (mkF m pc' L (.int (x.toInt8.toInt32) :: S))) : Go p e below F n0 Q T (mkF m pc L (.int x :: S)) := by
  obtain ⟨s, locs, X, hx, rfl, -⟩ := C; subst hp
  exact K.via fun t k => XT.i2b X.here hx rfl hd rfl k
theorem Cx.goto (C : Cx p l e R m args below meth c Z y bytes ml ret n0 wd F T h cells slots) {o : Int} (hd : decode bytes pc = .ok (.goto o, 3)) (ho : 0 ≤ (pc : Int) + o) (hp : ((pc : Int) + o).toNat = pc') (K : Go p e below F n0 Q T (mkF m pc' L S)) : Go p e below F n0 Q T (mkF m pc L S) := by
  obtain ⟨s, locs, X, hx, rfl, -⟩ := C
  exact K.via fun t k => XS.goto X.here hx rfl rfl hd ho hp k
theorem Cx.if_eq (C : Cx p l e R m args below meth c Z y bytes ml ret n0 wd F T h cells slots) {x : Int32} {o : Int} {py pn : Nat} (hd : decode bytes pc = .ok (.ifCond .eq o, 3)) (ho : 0 ≤ (pc : Int) + o) (hy : ((pc : Int) + o).toNat = py) (hn : pc + 3 = pn) (K1 : x = (0 : Int32) → Go p e below F n0 Q T (mkF m py L S)) (K2 : ¬ x = (0 : Int32) → Go p e below F n0 Q T (mkF m pn L S)) : Go p e below F n0 Q T (mkF m pc L (.int x :: S)) := by
  obtain ⟨s, locs, X, hx, rfl, -⟩ := C; subst hn
  by_cases q : x = (0 : Int32)
  · exact (K1 q).via fun t k => XS.ifYes X.here hx rfl rfl hd rfl (XT.i0_eq_t q) ho hy k
  · exact (K2 q).via fun t k => XS.ifNo X.here hx rfl hd rfl (XT.i0_eq_f q) k
theorem Cx.icmp_ne (C : Cx p l e R m args below meth c Z y bytes ml ret n0 wd F T h cells slots) {x z : Int32} {o : Int} {py pn : Nat} (hd : decode bytes pc = .ok (.if_icmp .ne o, 3)) (ho : 0 ≤ (pc : Int) + o) (hy : ((pc : Int) + o).toNat = py) (hn : pc + 3 = pn) (K1 : ¬ x = z → Go p e below F n0 Q T (mkF m py L S)) (K2 : x = z → Go p e below F n0 Q T (mkF m pn L S)) : Go p e below F n0 Q T (mkF m pc L (.int z :: .int x :: S)) := by
  obtain ⟨s, locs, X, hx, rfl, -⟩ := C; subst hn
  by_cases q : x = z
  · exact (K2 q).via fun t k => XS.icmpNo X.here hx rfl hd rfl (XT.ii_ne_f q) k
  · exact (K1 q).via fun t k => XS.icmpYes X.here hx rfl rfl hd rfl (XT.ii_ne_t q) ho hy k
theorem Cx.if_ne (C : Cx p l e R m args below meth c Z y bytes ml ret n0 wd F T h cells slots) {x : Int32} {o : Int} {py pn : Nat} (hd : decode bytes pc = .ok (.ifCond .ne o, 3)) (ho : 0 ≤ (pc : Int) + o) (hy : ((pc : Int) + o).toNat = py) (hn : pc + 3 = pn) (K1 : ¬ x = (0 : Int32) → Go p e below F n0 Q T (mkF m py L S)) (K2 : x = (0 : Int32) → Go p e below F n0 Q T (mkF m pn L S)) : Go p e below F n0 Q T (mkF m pc L (.int x :: S)) := by
  obtain ⟨s, locs, X, hx, rfl, -⟩ := C; subst hn
  by_cases q : x = (0 : Int32)
  · exact (K2 q).via fun t k => XS.ifNo X.here hx rfl hd rfl (XT.i0_ne_f q) k
  · exact (K1 q).via fun t k => XS.ifYes X.here hx rfl rfl hd rfl (XT.i0_ne_t q) ho hy k
theorem Cx.icmp_lt (C : Cx p l e R m args below meth c Z y bytes ml ret n0 wd F T h cells slots) {x z : Int32} {o : Int} {py pn : Nat} (hd : decode bytes pc = .ok (.if_icmp .lt o, 3)) (ho : 0 ≤ (pc : Int) + o) (hy : ((pc : Int) + o).toNat = py) (hn : pc + 3 = pn) (K1 : x < z → Go p e below F n0 Q T (mkF m py L S)) (K2 : ¬ x < z → Go p e below F n0 Q T (mkF m pn L S)) : Go p e below F n0 Q T (mkF m pc L (.int z :: .int x :: S)) := by
  obtain ⟨s, locs, X, hx, rfl, -⟩ := C; subst hn
  by_cases q : x < z
  · exact (K1 q).via fun t k => XS.icmpYes X.here hx rfl rfl hd rfl (XT.ii_lt_t q) ho hy k
  · exact (K2 q).via fun t k => XS.icmpNo X.here hx rfl hd rfl (XT.ii_lt_f q) k
theorem Cx.icmp_ge (C : Cx p l e R m args below meth c Z y bytes ml ret n0 wd F T h cells slots) {x z : Int32} {o : Int} {py pn : Nat} (hd : decode bytes pc = .ok (.if_icmp .ge o, 3)) (ho : 0 ≤ (pc : Int) + o) (hy : ((pc : Int) + o).toNat = py) (hn : pc + 3 = pn) (K1 : ¬ x < z → Go p e below F n0 Q T (mkF m py L S)) (K2 : x < z → Go p e below F n0 Q T (mkF m pn L S)) : Go p e below F n0 Q T (mkF m pc L (.int z :: .int x :: S)) := by
  obtain ⟨s, locs, X, hx, rfl, -⟩ := C; subst hn
  by_cases q : x < z
  · exact (K2 q).via fun t k => XS.icmpNo X.here hx rfl hd rfl (XT.ii_ge_f q) k
  · exact (K1 q).via fun t k => XS.icmpYes X.here hx rfl rfl hd rfl (XT.ii_ge_t q) ho hy k
theorem Cx.if_ge (C : Cx p l e R m args below meth c Z y bytes ml ret n0 wd F T h cells slots) {x : Int32} {o : Int} {py pn : Nat} (hd : decode bytes pc = .ok (.ifCond .ge o, 3)) (ho : 0 ≤ (pc : Int) + o) (hy : ((pc : Int) + o).toNat = py) (hn : pc + 3 = pn) (K1 : ¬ x < (0 : Int32) → Go p e below F n0 Q T (mkF m py L S)) (K2 : x < (0 : Int32) → Go p e below F n0 Q T (mkF m pn L S)) : Go p e below F n0 Q T (mkF m pc L (.int x :: S)) := by
  obtain ⟨s, locs, X, hx, rfl, -⟩ := C; subst hn
  by_cases q : x < (0 : Int32)
  · exact (K2 q).via fun t k => XS.ifNo X.here hx rfl hd rfl (XT.i0_ge_f q) k
  · exact (K1 q).via fun t k => XS.ifYes X.here hx rfl rfl hd rfl (XT.i0_ge_t q) ho hy k
theorem Cx.icmp_gt (C : Cx p l e R m args below meth c Z y bytes ml ret n0 wd F T h cells slots) {x z : Int32} {o : Int} {py pn : Nat} (hd : decode bytes pc = .ok (.if_icmp .gt o, 3)) (ho : 0 ≤ (pc : Int) + o) (hy : ((pc : Int) + o).toNat = py) (hn : pc + 3 = pn) (K1 : z < x → Go p e below F n0 Q T (mkF m py L S)) (K2 : ¬ z < x → Go p e below F n0 Q T (mkF m pn L S)) : Go p e below F n0 Q T (mkF m pc L (.int z :: .int x :: S)) := by
  obtain ⟨s, locs, X, hx, rfl, -⟩ := C; subst hn
  by_cases q : z < x
  · exact (K1 q).via fun t k => XS.icmpYes X.here hx rfl rfl hd rfl (XT.ii_gt_t q) ho hy k
  · exact (K2 q).via fun t k => XS.icmpNo X.here hx rfl hd rfl (XT.ii_gt_f q) k
theorem Cx.icmp_le (C : Cx p l e R m args below meth c Z y bytes ml ret n0 wd F T h cells slots) {x z : Int32} {o : Int} {py pn : Nat} (hd : decode bytes pc = .ok (.if_icmp .le o, 3)) (ho : 0 ≤ (pc : Int) + o) (hy : ((pc : Int) + o).toNat = py) (hn : pc + 3 = pn) (K1 : ¬ z < x → Go p e below F n0 Q T (mkF m py L S)) (K2 : z < x → Go p e below F n0 Q T (mkF m pn L S)) : Go p e below F n0 Q T (mkF m pc L (.int z :: .int x :: S)) := by
  obtain ⟨s, locs, X, hx, rfl, -⟩ := C; subst hn
  by_cases q : z < x
  · exact (K2 q).via fun t k => XS.icmpNo X.here hx rfl hd rfl (XT.ii_le_f q) k
  · exact (K1 q).via fun t k => XS.icmpYes X.here hx rfl rfl hd rfl (XT.ii_le_t q) ho hy k
theorem Cx.done (C : Cx p l e R m args below meth c Z y bytes ml ret n0 wd F T h cells slots) {v : Option Value} (hv : ret = none → v = none) (hc : cells ≤ R.cells) (hs : slots ≤ R.slots) (hq : Q v h) {f : JFrame}
    (k : ∀ s locs fs, Stand p l e R s m args below meth c T locs cells slots → (∀ (f : JFrame) (acts : List Action), f.method = m → f.locked = none → f.entered = [] → (doReturn e (T.setTop f) acts v).1 = T.setFrames fs) → Steps p.tables e below (T.setTop f) (T.setFrames fs)) : Go p e below F n0 Q T f := by
  have hz := C.size
  obtain ⟨s, locs, X, hx, rfl, rfl, hZ, hown, hnm, rfl, hlk, rfl, N, hn, hF⟩ := C
  obtain ⟨fs, hr, hrun, hended, hW, hsame⟩ := X.leave (v := v) hv
  exact ⟨_, _, k s locs fs X hr, hrun, hended, v, locs, rfl, ⟨hq, N, hz⟩, hF _ _ _ (Nat.le_refl _) (EndF.of ⟨⟨v, rfl⟩, hW, hsame.mono hc hs⟩)⟩
theorem Cx.retI (C : Cx p l e R m args below meth c Z y bytes ml ret n0 wd F T h cells slots) {z : Int32} (hd : decode bytes pc = .ok (.ireturn, 1)) (hret : ret = some .int) (hc : cells ≤ R.cells) (hs : slots ≤ R.slots) (hq : Q (some (.int z)) h) : Go p e below F n0 Q T (mkF m pc L (.int z :: S)) := by
  refine C.done (fun q => by rw [hret] at q; cases q) hc hs hq fun s locs fs X hr => ?_
  obtain ⟨_, _, -, hx, rfl, -, -, -, -, rfl, -⟩ := C
  exact retOut X hx hret rfl (Or.inl ⟨rfl, Or.inl rfl, _, rfl⟩) hd hr
theorem Cx.retN (C : Cx p l e R m args below meth c Z y bytes ml ret n0 wd F T h cells slots) {z w : Int32} {t : FieldType} (hd : decode bytes pc = .ok (.ireturn, 1)) (hret : ret = some t) (ht : t = .boolean ∨ t = .byte ∨ t = .char ∨ t = .short) (hc : cells ≤ R.cells) (hs : slots ≤ R.slots) (hw : nar t z = w) (hq : Q (some (.int w)) h) : Go p e below F n0 Q T (mkF m pc L (.int z :: S)) := by
  subst hw
  refine C.done (fun q => by rw [hret] at q; cases q) hc hs hq fun s locs fs X hr => ?_
  obtain ⟨_, _, -, hx, rfl, -, -, -, -, rfl, -⟩ := C
  exact Jvm.RoadKit.retN X hx hret ht hd hr
theorem Cx.ldc (C : Cx p l e R m args below meth c Z y bytes ml ret n0 wd F T h cells slots) {idx : Nat} {v : Int32} (w : (Jvm.Cond.constant y.cls idx v).before a0 Z = true) (hd : decode bytes pc = .ok (.ldc idx, 2)) (hp : pc + 2 = pc') (K : Go p e below F n0 Q T (mkF m pc' L (.int v :: S))) : Go p e below F n0 Q T (mkF m pc L S) := by
  obtain ⟨s, locs, X, hx, rfl, rfl, hZ, hown, -⟩ := C; subst hp
  exact K.via fun t k => X.ldcInt hx hown (mvT hZ w) (g := mkF m pc L S) rfl hd t k
theorem Cx.callS (C : Cx p l e R m args below meth c Z y bytes ml ret n0 wd F T h cells slots) {idx : Nat} {y' : MethodName} {bytes' : ByteArray} {ml' : Nat} {ret' : Option FieldType} {R' : Room} {Q' : Option Value → Heap → Prop} {argsL : List Value} (w1 : (Jvm.Cond.methodLink y.cls idx y').before a0 Z = true) (w2 : (Jvm.Cond.static y').before a0 Z = true) (w3 : (Jvm.Cond.initialized y'.cls).before a0 Z = true) (w4 : (Jvm.Cond.code y' bytes' ml' ret').before a0 Z = true)
    (hy : y'.cls ≠ "java/lang/invoke/MethodHandle" ∧ y'.cls ≠ "java/lang/invoke/VarHandle") (M : Ctr l Z y' bytes' ml' ret' R' argsL.toArray h n0 Q') {ps : List FieldType} {rt : Option FieldType} (hpd : parseMethodDescriptor y'.desc = some ⟨ps, rt⟩) (hlen : argsL.length = ps.length)
    (W : Nat) (hf : R'.frames + 1 ≤ R.frames) (hl : W + (ml' + 11) + R'.locals ≤ R.locals) (hc : cells + R'.cells ≤ R.cells) (hs : slots + R'.slots ≤ R.slots) {rest : List Value} (hst : S = argsL.reverse ++ rest) (hsz : L.size = ml) (hW : (rest.map fun v => v.category).sum ≤ W)
    (hd : decode bytes pc = .ok (.invokestatic idx, 3)) (hp : pc + 3 = pc') (K : ∀ v T' h', Cx p l e R m args below meth c Z y bytes ml ret n0 wd F T' h' (cells + R'.cells) (slots + R'.slots) → Q' v h' → Go p e below F n0 Q T' (mkF m pc' L (v.toList ++ rest))) : Go p e below F n0 Q T (mkF m pc L S) := by
  obtain ⟨s, locs, X, hx, rfl, rfl, hZ, hown, hnm, hr, hlk, eT, N, hn, hF⟩ := C; subst hp
  obtain ⟨v, _, ⟨T', L', k', n'⟩, -, X', ⟨Lc, hQ, e1, e2, e3⟩, st⟩ := Jvm.LawKit.callS X hx (y := y') hown (mvT hZ w1) (mvT hZ w2) (mvT hZ w3) (mvT hZ w4) hy (backOf (W := W) (Q := fun v h9 L => (Q' v h9 ∧ h.size ≤ h9.size) ∧ Fr n0 L) (M []) hZ w4 w3 hf hl) (g := mkF m pc L S) rfl hsz (argsL := argsL) (rest := rest) (lenOf hpd hlen) hst (by show 2 * 0 + _ ≤ _; omega) hd (fun _ _ => ⟨rfl, eT, hc, hs⟩)
  dsimp only [Pt.U, Pt.locs, Pt.cells, Pt.slots] at X' e1 e2 e3 st hQ
  subst e1 e2 e3
  exact (K v T' T'.heap ⟨s, _, X', hx, rfl, rfl, hZ, hown, hnm, hr, hlk, rfl, N.app hQ.2, hn, fun o t L q => hF o t L (Nat.le_trans hQ.1.2 q)⟩ hQ.1.1).via st
theorem Cx.new (C : Cx p l e R m args below meth c Z y bytes ml ret n0 wd F T h cells slots) {idx n : Nat} {Cl : String} (w : (Jvm.Cond.classLink y.cls idx Cl).before a0 Z = true) (wi : (Jvm.Cond.instantiable Cl n).before a0 Z = true) (wz : (Jvm.Cond.initialized Cl).before a0 Z = true) (hd : decode bytes pc = .ok (.new idx, 3)) (hp : pc + 3 = pc') (hc : cells + 1 ≤ R.cells) (hl : slots + n ≤ R.slots)
    (K : ∀ T' h' b, Cx p l e R m args below meth c Z y bytes ml ret n0 wd F T' h' (cells + 1) (slots + n) → b = h.size → n0 ≤ b → Ext h h' → Exa Z h' b Cl → (∀ {O nm d : String} {ty : FieldType}, Laid Z a0 Cl O nm d → parseFieldDescriptor d = some ty → Fld Z h' b O nm d (defaultValue ty)) → Go p e below F n0 Q T' (mkF m pc' L (.ref b :: S))) : Go p e below F n0 Q T (mkF m pc L S) := by
  have hz := C.size
  obtain ⟨s, locs, X, hx, rfl, rfl, hZ, hown, hnm, hr, hlk, eT, N, hn, hF⟩ := C; subst hp
  obtain ⟨T', h', X', e', E, A, D, -, st⟩ := newO X hx hZ hown w wi wz eT (g := mkF m pc L S) rfl hd hc hl
  exact (K T' h' h.size ⟨s, locs, X', hx, rfl, rfl, hZ, hown, hnm, hr, hlk, e', N, hn, fun o t L q => hF o t L (Nat.le_trans E.1 q)⟩ rfl hz E A D).via st
theorem Cx.newarr (C : Cx p l e R m args below meth c Z y bytes ml ret n0 wd F T h cells slots) {aty : ArrayType} (w : (Jvm.Cond.arrayClass (newarray.typeOf aty)).before a0 Z = true) {n : Int32} (cap : Nat) (hn0 : ¬ n < 0) (hcap : n.toNatClampNeg ≤ cap) (hb : cap * 8 ≤ 536870912) (hc : cells + 1 ≤ R.cells) (hl : slots + cap ≤ R.slots) (hd : decode bytes pc = .ok (.newarray aty, 2)) (hp : pc + 2 = pc')
    (K : ∀ T' h' b k, Cx p l e R m args below meth c Z y bytes ml ret n0 wd F T' h' (cells + 1) (slots + cap) → b = h.size → n0 ≤ b → Ext h h' → Arv Z h' b k (newarray.typeOf aty) n (List.replicate cap (defaultValue (newarray.typeOf aty))) (defaultValue (newarray.typeOf aty)) → Go p e below F n0 Q T' (mkF m pc' L (.ref b :: S))) : Go p e below F n0 Q T (mkF m pc L (.int n :: S)) := by
  have hz := C.size
  obtain ⟨s, locs, X, hx, rfl, rfl, hZ, hown, hnm, hr, hlk, eT, N, hn, hF⟩ := C; subst hp
  obtain ⟨T', h', cA, X', e', E, A, st⟩ := newP X hx hZ w eT (g := mkF m pc L (.int n :: S)) rfl hd rfl hn0 (cap := cap) hcap hb hc hl
  exact (K T' h' h.size cA ⟨s, locs, X', hx, rfl, rfl, hZ, hown, hnm, hr, hlk, e', N, hn, fun o t L q => hF o t L (Nat.le_trans E.1 q)⟩ rfl hz E ((Arv.new A hn0).pad (pad_rep [] _ cap))).via st
theorem Cx.bastore (C : Cx p l e R m args below meth c Z y bytes ml ret n0 wd F T h cells slots) {a : Addr} {k : ClassId} {n j : Int32} {x : Int32} {vs : List Value} {dv : Value} (A : Arv Z h a k .byte n vs dv) (hj : ¬ j < 0 ∧ j < n) (hlen : j.toNatClampNeg < vs.length) (g : n0 ≤ a) (hd : decode bytes pc = .ok (.bastore, 1)) (hp : pc + 1 = pc')
    (K : ∀ T' h', Cx p l e R m args below meth c Z y bytes ml ret n0 wd F T' h' cells slots → Wr h h' a j.toNatClampNeg (.int (nar .byte x)) → Arv Z h' a k .byte n (vs.set j.toNatClampNeg (.int (nar .byte x))) dv → Go p e below F n0 Q T' (mkF m pc' L S)) : Go p e below F n0 Q T (mkF m pc L (.int x :: .int j :: .ref a :: S)) := by
  obtain ⟨s, locs, X, hx, rfl, rfl, hZ, hown, hnm, hr, hlk, eT, N, hn, hF⟩ := C; subst hp
  obtain ⟨cl, Ar, q1, Sz, q3, H, G⟩ := A
  obtain ⟨T', h', X', e', W, st⟩ := stB X hx hZ eT Ar (j := j) (inb_of Sz hj) (g := mkF m pc L (.int x :: .int j :: .ref a :: S)) rfl rfl hd
  exact (K T' h' ⟨s, _, X', hx, rfl, rfl, hZ, hown, hnm, hr, hlk, e', Fr.snoc X' N g, hn, fun o t L q => hF o t L (W.size ▸ q)⟩ W (Arv.set Ar q1 Sz q3 H G (fits_nar_byte _) W _ rfl hlen)).via st
theorem Cx.baload (C : Cx p l e R m args below meth c Z y bytes ml ret n0 wd F T h cells slots) {a : Addr} {k : ClassId} {n j : Int32} {v : Int32} {vs : List Value} {dv : Value} (A : Arv Z h a k .byte n vs dv) (hj : ¬ j < 0 ∧ j < n) (hv : vs.getD j.toNatClampNeg dv = .int v) (hd : decode bytes pc = .ok (.baload, 1)) (hp : pc + 1 = pc') (K : Go p e below F n0 Q T (mkF m pc' L (.int v :: S))) : Go p e below F n0 Q T (mkF m pc L (.int j :: .ref a :: S)) := by
  obtain ⟨s, locs, X, hx, rfl, rfl, hZ, hown, hnm, hr, hlk, eT, N, hn, hF⟩ := C; subst hp
  obtain ⟨cl, Ar, q1, Sz, q3, H, G⟩ := A
  exact K.via fun t k => X.baloadBytes hx (j := j) (by rw [eT]; exact Ar.1) (State.isArrayOf_alike hZ.alike Ar.2.1) Ar.2.2 (inb_of Sz hj) (H.at (inb_of Sz hj) hv) (g := mkF m pc L (.int j :: .ref a :: S)) rfl rfl hd t k
end Layer
end Jvm.Ow
namespace Jvm.Pilot.@@N@@
open Jvm Jvm.ClassFile Sem Op Lib Jvm.Free Jvm.Stand Jvm.LawKit Jvm.RoadKit Bundle Jvm.Ow Jvm.Pilot.@@N@@.Jvm.D
theorem own_narb (x : Int32) : nar .byte x.toInt8.toInt32 = x.toInt8.toInt32 := by
  show x.toInt8.toInt32.toInt8.toInt32 = _; simp
theorem own_narb0 (x : Int32) : nar .byte x = x.toInt8.toInt32 := rfl
def loopD (g : Int32 → Int32) (from_ to_ : Int32) : Nat → Int32 → Int32 → Int32
  | 0, pt, _ => if pt < (0 : Int32) then (if from_ < to_ then (1 : Int32) else (0 : Int32)) else (if from_ < pt then (if pt < (to_ - (1 : Int32)) then (1 : Int32) else (0 : Int32)) else (0 : Int32))
  | k + 1, pt, i => if g i = (46 : Int32) then (if pt < (0 : Int32) then loopD g from_ to_ k i (i + (1 : Int32)) else (if g i < (48 : Int32) then (0 : Int32) else (if (57 : Int32) < g i then (0 : Int32) else loopD g from_ to_ k pt (i + (1 : Int32))))) else (if g i < (48 : Int32) then (0 : Int32) else (if (57 : Int32) < g i then (0 : Int32) else loopD g from_ to_ k pt (i + (1 : Int32))))
theorem own_getI (l : List Int32) (i : Nat) : (l.map Value.int).getD i (.int 0) = .int (l.getD i 0) := by
  simp only [List.getD_eq_getElem?_getD, List.getElem?_map]; cases l[i]? <;> rfl
theorem own_getJ (l : List Int64) (i : Nat) : (l.map Value.long).getD i (.long 0) = .long (l.getD i 0) := by
  simp only [List.getD_eq_getElem?_getD, List.getElem?_map]; cases l[i]? <;> rfl
theorem own_eqite {α : Type} {P : Prop} [Decidable P] {u a b : α} : (u = if P then a else b) ↔ ((P ∧ u = a) ∨ (¬ P ∧ u = b)) := by by_cases h : P <;> simp [h]
theorem own_iteeq {α : Type} {P : Prop} [Decidable P] {u a b : α} : ((if P then a else b) = u) ↔ ((P ∧ a = u) ∨ (¬ P ∧ b = u)) := by by_cases h : P <;> simp [h]

def f1 (i0 : Int32) : Int32 := if (i0 &&& (3 : Int32)) = (0 : Int32) then (((48 : Int32) + (((i0.toUInt32 >>> ((2 : Int32) &&& 31).toUInt32).toInt32) % (10 : Int32))).toInt8.toInt32) else (if (i0 &&& (3 : Int32)) = (1 : Int32) then (46 : Int32) else (((i0 >>> ((2 : Int32) &&& 31)).toInt8.toInt32)))
theorem pn1 : plainName "com/example/exdate/exdate/ValuesIsDecimalPinLaw" = true := by first | (simp [plainName, overriddenIn]; done) | decide +kernel
theorem pd1 : parseMethodDescriptor "(I)B" = some ⟨[.int], some .byte⟩ := by decide +kernel
theorem ef1 (m : MethodId) (i0 : Int32) : entryFrame m #[(.int i0)] 2 = mkF m 0 #[.val (.int i0), .unset] [] := by first | (simp [entryFrame, mkF, argsToLocals, Value.category]; done) | rfl
theorem d1_0 : decode method_2_code 0 = .ok (.iload_n 0, 1) := by decide +kernel
theorem d1_1 : decode method_2_code 1 = .ok (.iconst 3, 1) := by decide +kernel
theorem d1_2 : decode method_2_code 2 = .ok (.iand, 1) := by decide +kernel
theorem d1_3 : decode method_2_code 3 = .ok (.istore_n 1, 1) := by decide +kernel
theorem d1_4 : decode method_2_code 4 = .ok (.iload_n 1, 1) := by decide +kernel
theorem d1_5 : decode method_2_code 5 = .ok (.ifCond .ne 14, 3) := by decide +kernel
theorem d1_8 : decode method_2_code 8 = .ok (.bipush 48, 2) := by decide +kernel
theorem d1_10 : decode method_2_code 10 = .ok (.iload_n 0, 1) := by decide +kernel
theorem d1_11 : decode method_2_code 11 = .ok (.iconst 2, 1) := by decide +kernel
theorem d1_12 : decode method_2_code 12 = .ok (.iushr, 1) := by decide +kernel
theorem d1_13 : decode method_2_code 13 = .ok (.bipush 10, 2) := by decide +kernel
theorem d1_15 : decode method_2_code 15 = .ok (.irem, 1) := by decide +kernel
theorem d1_16 : decode method_2_code 16 = .ok (.iadd, 1) := by decide +kernel
theorem d1_17 : decode method_2_code 17 = .ok (.i2b, 1) := by decide +kernel
theorem d1_18 : decode method_2_code 18 = .ok (.ireturn, 1) := by decide +kernel
theorem d1_19 : decode method_2_code 19 = .ok (.iload_n 1, 1) := by decide +kernel
theorem d1_20 : decode method_2_code 20 = .ok (.iconst 1, 1) := by decide +kernel
theorem d1_21 : decode method_2_code 21 = .ok (.if_icmp .ne 6, 3) := by decide +kernel
theorem d1_24 : decode method_2_code 24 = .ok (.bipush 46, 2) := by decide +kernel
theorem d1_26 : decode method_2_code 26 = .ok (.ireturn, 1) := by decide +kernel
theorem d1_27 : decode method_2_code 27 = .ok (.iload_n 0, 1) := by decide +kernel
theorem d1_28 : decode method_2_code 28 = .ok (.iconst 2, 1) := by decide +kernel
theorem d1_29 : decode method_2_code 29 = .ok (.ishr, 1) := by decide +kernel
theorem d1_30 : decode method_2_code 30 = .ok (.i2b, 1) := by decide +kernel
theorem d1_31 : decode method_2_code 31 = .ok (.ireturn, 1) := by decide +kernel
set_option maxRecDepth 65536 in
set_option maxHeartbeats 40000000 in
theorem rm1 (l : Launch) (Z : State) (a0 : Array Value) (hw : ∀ d ∈ tables_1, d.before a0 Z = true) (i0 : Int32) (h0 : Heap) (n0 : Nat) (Z0 : n0 ≤ h0.size) :
    Ctr l Z (⟨"com/example/exdate/exdate/ValuesIsDecimalPinLaw", "draw", "(I)B"⟩ : MethodName) method_2_code 2 (some .byte) ({ frames := 0, cells := 0, slots := 0, locals := 0 } : Room) #[(.int i0)] h0 n0 (fun v h' => v = some (.int (f1 i0)) ∧ h' = h0) := by
  refine Ctr.body (L := #[.val (.int i0), .unset]) (plainFor_of_name pn1) Z0 (fun m => ef1 m i0) ?_
  intro p e F m below meth c T0 C0
  refine C0.iloadN d1_0 rfl rfl ?_
  refine C0.iconst (3 : Int32) d1_1 rfl rfl ?_
  refine C0.iand d1_2 rfl ?_
  refine C0.istoreN d1_3 rfl (L' := #[.val (.int i0), .val (.int (i0 &&& (3 : Int32)))]) rfl ?_
  refine C0.iloadN d1_4 rfl rfl ?_
  refine C0.if_ne d1_5 (by decide) (by decide : _ = 19) rfl (fun c5 => ?_) (fun c5 => ?_)
  · refine C0.iloadN d1_19 rfl rfl ?_
    refine C0.iconst (1 : Int32) d1_20 rfl rfl ?_
    refine C0.icmp_ne d1_21 (by decide) (by decide : _ = 27) rfl (fun c21 => ?_) (fun c21 => ?_)
    · refine C0.iloadN d1_27 rfl rfl ?_
      refine C0.iconst (2 : Int32) d1_28 rfl rfl ?_
      refine C0.ishr d1_29 rfl ?_
      refine C0.i2b d1_30 rfl ?_
      exact C0.retN (t := .byte) d1_31 rfl (by simp) (by decide) (by decide) (w := ((i0 >>> ((2 : Int32) &&& 31)).toInt8.toInt32)) (own_narb _) ⟨by rw [f1, if_neg c5, if_neg c21], rfl⟩
    · refine C0.bipush (46 : Int32) d1_24 rfl rfl ?_
      exact C0.retN (t := .byte) d1_26 rfl (by simp) (by decide) (by decide) (w := (46 : Int32)) rfl ⟨by rw [f1, if_neg c5, if_pos c21], rfl⟩
  · refine C0.bipush (48 : Int32) d1_8 rfl rfl ?_
    refine C0.iloadN d1_10 rfl rfl ?_
    refine C0.iconst (2 : Int32) d1_11 rfl rfl ?_
    refine C0.iushr d1_12 rfl ?_
    refine C0.bipush (10 : Int32) d1_13 rfl rfl ?_
    refine C0.irem d1_15 rfl (by decide) ?_
    refine C0.iadd d1_16 rfl ?_
    refine C0.i2b d1_17 rfl ?_
    exact C0.retN (t := .byte) d1_18 rfl (by simp) (by decide) (by decide) (w := (((48 : Int32) + (((i0.toUInt32 >>> ((2 : Int32) &&& 31).toUInt32).toInt32) % (10 : Int32))).toInt8.toInt32)) (own_narb _) ⟨by rw [f1, if_pos c5], rfl⟩
def f3 (i0 : Int32) (i1 : Int32) (i2 : Int32) : Int32 := if i0 < i1 then (0 : Int32) else (if i0 < i2 then (1 : Int32) else ((0 : Int32)))
theorem pn3 : plainName "com/example/exdate/exdate/ValuesIsDecimalPinLaw" = true := by first | (simp [plainName, overriddenIn]; done) | decide +kernel
theorem pd3 : parseMethodDescriptor "(III)Z" = some ⟨[.int, .int, .int], some .boolean⟩ := by decide +kernel
theorem ef3 (m : MethodId) (i0 : Int32) (i1 : Int32) (i2 : Int32) : entryFrame m #[(.int i0), (.int i1), (.int i2)] 3 = mkF m 0 #[.val (.int i0), .val (.int i1), .val (.int i2)] [] := by first | (simp [entryFrame, mkF, argsToLocals, Value.category]; done) | rfl
theorem d3_0 : decode method_3_code 0 = .ok (.iload_n 1, 1) := by decide +kernel
theorem d3_1 : decode method_3_code 1 = .ok (.iload_n 0, 1) := by decide +kernel
theorem d3_2 : decode method_3_code 2 = .ok (.if_icmp .gt 12, 3) := by decide +kernel
theorem d3_5 : decode method_3_code 5 = .ok (.iload_n 0, 1) := by decide +kernel
theorem d3_6 : decode method_3_code 6 = .ok (.iload_n 2, 1) := by decide +kernel
theorem d3_7 : decode method_3_code 7 = .ok (.if_icmp .ge 7, 3) := by decide +kernel
theorem d3_10 : decode method_3_code 10 = .ok (.iconst 1, 1) := by decide +kernel
theorem d3_11 : decode method_3_code 11 = .ok (.goto 4, 3) := by decide +kernel
theorem d3_14 : decode method_3_code 14 = .ok (.iconst 0, 1) := by decide +kernel
theorem d3_15 : decode method_3_code 15 = .ok (.ireturn, 1) := by decide +kernel
set_option maxRecDepth 65536 in
set_option maxHeartbeats 40000000 in
theorem rm3 (l : Launch) (Z : State) (a0 : Array Value) (hw : ∀ d ∈ tables_1, d.before a0 Z = true) (i0 : Int32) (i1 : Int32) (i2 : Int32) (h0 : Heap) (n0 : Nat) (Z0 : n0 ≤ h0.size) :
    Ctr l Z (⟨"com/example/exdate/exdate/ValuesIsDecimalPinLaw", "in", "(III)Z"⟩ : MethodName) method_3_code 3 (some .boolean) ({ frames := 0, cells := 0, slots := 0, locals := 0 } : Room) #[(.int i0), (.int i1), (.int i2)] h0 n0 (fun v h' => v = some (.int (f3 i0 i1 i2)) ∧ h' = h0) := by
  refine Ctr.body (L := #[.val (.int i0), .val (.int i1), .val (.int i2)]) (plainFor_of_name pn3) Z0 (fun m => ef3 m i0 i1 i2) ?_
  intro p e F m below meth c T0 C0
  refine C0.iloadN d3_0 rfl rfl ?_
  refine C0.iloadN d3_1 rfl rfl ?_
  refine C0.icmp_gt d3_2 (by decide) (by decide : _ = 14) rfl (fun c2 => ?_) (fun c2 => ?_)
  · refine C0.iconst (0 : Int32) d3_14 rfl rfl ?_
    exact C0.retN (t := .boolean) d3_15 rfl (by simp) (by decide) (by decide) (w := (0 : Int32)) rfl ⟨by rw [f3, if_pos c2], rfl⟩
  · refine C0.iloadN d3_5 rfl rfl ?_
    refine C0.iloadN d3_6 rfl rfl ?_
    refine C0.icmp_ge d3_7 (by decide) (by decide : _ = 14) rfl (fun c7 => ?_) (fun c7 => ?_)
    · refine C0.iconst (0 : Int32) d3_14 rfl rfl ?_
      exact C0.retN (t := .boolean) d3_15 rfl (by simp) (by decide) (by decide) (w := (0 : Int32)) rfl ⟨by rw [f3, if_neg c2, if_neg c7], rfl⟩
    · refine C0.iconst (1 : Int32) d3_10 rfl rfl ?_
      refine C0.goto d3_11 (by decide) (by decide : _ = 15) ?_
      exact C0.retN (t := .boolean) d3_15 rfl (by simp) (by decide) (by decide) (w := (1 : Int32)) rfl ⟨by rw [f3, if_neg c2, if_pos c7], rfl⟩
def f6 (i0 : Int32) : Int32 := if i0 = (46 : Int32) then (1 : Int32) else ((0 : Int32))
theorem pn6 : plainName "com/example/exdate/exdate/ValuesIsDecimalPinLaw" = true := by first | (simp [plainName, overriddenIn]; done) | decide +kernel
theorem pd6 : parseMethodDescriptor "(B)Z" = some ⟨[.byte], some .boolean⟩ := by decide +kernel
theorem ef6 (m : MethodId) (i0 : Int32) : entryFrame m #[(.int i0)] 1 = mkF m 0 #[.val (.int i0)] [] := by first | (simp [entryFrame, mkF, argsToLocals, Value.category]; done) | rfl
theorem d6_0 : decode method_4_code 0 = .ok (.iload_n 0, 1) := by decide +kernel
theorem d6_1 : decode method_4_code 1 = .ok (.bipush 46, 2) := by decide +kernel
theorem d6_3 : decode method_4_code 3 = .ok (.if_icmp .ne 7, 3) := by decide +kernel
theorem d6_6 : decode method_4_code 6 = .ok (.iconst 1, 1) := by decide +kernel
theorem d6_7 : decode method_4_code 7 = .ok (.goto 4, 3) := by decide +kernel
theorem d6_10 : decode method_4_code 10 = .ok (.iconst 0, 1) := by decide +kernel
theorem d6_11 : decode method_4_code 11 = .ok (.ireturn, 1) := by decide +kernel
set_option maxRecDepth 65536 in
set_option maxHeartbeats 40000000 in
theorem rm6 (l : Launch) (Z : State) (a0 : Array Value) (hw : ∀ d ∈ tables_1, d.before a0 Z = true) (i0 : Int32) (h0 : Heap) (n0 : Nat) (Z0 : n0 ≤ h0.size) :
    Ctr l Z (⟨"com/example/exdate/exdate/ValuesIsDecimalPinLaw", "isPoint", "(B)Z"⟩ : MethodName) method_4_code 1 (some .boolean) ({ frames := 0, cells := 0, slots := 0, locals := 0 } : Room) #[(.int i0)] h0 n0 (fun v h' => v = some (.int (f6 i0)) ∧ h' = h0) := by
  refine Ctr.body (L := #[.val (.int i0)]) (plainFor_of_name pn6) Z0 (fun m => ef6 m i0) ?_
  intro p e F m below meth c T0 C0
  refine C0.iloadN d6_0 rfl rfl ?_
  refine C0.bipush (46 : Int32) d6_1 rfl rfl ?_
  refine C0.icmp_ne d6_3 (by decide) (by decide : _ = 10) rfl (fun c3 => ?_) (fun c3 => ?_)
  · refine C0.iconst (0 : Int32) d6_10 rfl rfl ?_
    exact C0.retN (t := .boolean) d6_11 rfl (by simp) (by decide) (by decide) (w := (0 : Int32)) rfl ⟨by rw [f6, if_neg c3], rfl⟩
  · refine C0.iconst (1 : Int32) d6_6 rfl rfl ?_
    refine C0.goto d6_7 (by decide) (by decide : _ = 11) ?_
    exact C0.retN (t := .boolean) d6_11 rfl (by simp) (by decide) (by decide) (w := (1 : Int32)) rfl ⟨by rw [f6, if_pos c3], rfl⟩
def f7 (i0 : Int32) : Int32 := if i0 < (48 : Int32) then (0 : Int32) else (if (57 : Int32) < i0 then (0 : Int32) else ((1 : Int32)))
theorem pn7 : plainName "com/example/exdate/exdate/ValuesIsDecimalPinLaw" = true := by first | (simp [plainName, overriddenIn]; done) | decide +kernel
theorem pd7 : parseMethodDescriptor "(B)Z" = some ⟨[.byte], some .boolean⟩ := by decide +kernel
theorem ef7 (m : MethodId) (i0 : Int32) : entryFrame m #[(.int i0)] 1 = mkF m 0 #[.val (.int i0)] [] := by first | (simp [entryFrame, mkF, argsToLocals, Value.category]; done) | rfl
theorem d7_0 : decode method_5_code 0 = .ok (.iload_n 0, 1) := by decide +kernel
theorem d7_1 : decode method_5_code 1 = .ok (.bipush 48, 2) := by decide +kernel
theorem d7_3 : decode method_5_code 3 = .ok (.if_icmp .lt 13, 3) := by decide +kernel
theorem d7_6 : decode method_5_code 6 = .ok (.iload_n 0, 1) := by decide +kernel
theorem d7_7 : decode method_5_code 7 = .ok (.bipush 57, 2) := by decide +kernel
theorem d7_9 : decode method_5_code 9 = .ok (.if_icmp .gt 7, 3) := by decide +kernel
theorem d7_12 : decode method_5_code 12 = .ok (.iconst 1, 1) := by decide +kernel
theorem d7_13 : decode method_5_code 13 = .ok (.goto 4, 3) := by decide +kernel
theorem d7_16 : decode method_5_code 16 = .ok (.iconst 0, 1) := by decide +kernel
theorem d7_17 : decode method_5_code 17 = .ok (.ireturn, 1) := by decide +kernel
set_option maxRecDepth 65536 in
set_option maxHeartbeats 40000000 in
theorem rm7 (l : Launch) (Z : State) (a0 : Array Value) (hw : ∀ d ∈ tables_1, d.before a0 Z = true) (i0 : Int32) (h0 : Heap) (n0 : Nat) (Z0 : n0 ≤ h0.size) :
    Ctr l Z (⟨"com/example/exdate/exdate/ValuesIsDecimalPinLaw", "isDigit", "(B)Z"⟩ : MethodName) method_5_code 1 (some .boolean) ({ frames := 0, cells := 0, slots := 0, locals := 0 } : Room) #[(.int i0)] h0 n0 (fun v h' => v = some (.int (f7 i0)) ∧ h' = h0) := by
  refine Ctr.body (L := #[.val (.int i0)]) (plainFor_of_name pn7) Z0 (fun m => ef7 m i0) ?_
  intro p e F m below meth c T0 C0
  refine C0.iloadN d7_0 rfl rfl ?_
  refine C0.bipush (48 : Int32) d7_1 rfl rfl ?_
  refine C0.icmp_lt d7_3 (by decide) (by decide : _ = 16) rfl (fun c3 => ?_) (fun c3 => ?_)
  · refine C0.iconst (0 : Int32) d7_16 rfl rfl ?_
    exact C0.retN (t := .boolean) d7_17 rfl (by simp) (by decide) (by decide) (w := (0 : Int32)) rfl ⟨by rw [f7, if_pos c3], rfl⟩
  · refine C0.iloadN d7_6 rfl rfl ?_
    refine C0.bipush (57 : Int32) d7_7 rfl rfl ?_
    refine C0.icmp_gt d7_9 (by decide) (by decide : _ = 16) rfl (fun c9 => ?_) (fun c9 => ?_)
    · refine C0.iconst (0 : Int32) d7_16 rfl rfl ?_
      exact C0.retN (t := .boolean) d7_17 rfl (by simp) (by decide) (by decide) (w := (0 : Int32)) rfl ⟨by rw [f7, if_neg c3, if_pos c9], rfl⟩
    · refine C0.iconst (1 : Int32) d7_12 rfl rfl ?_
      refine C0.goto d7_13 (by decide) (by decide : _ = 17) ?_
      exact C0.retN (t := .boolean) d7_17 rfl (by simp) (by decide) (by decide) (w := (1 : Int32)) rfl ⟨by rw [f7, if_neg c3, if_neg c9], rfl⟩
def f2 (i1 : Int32) (i2 : Int32) (i3 : Int32) (y1 : Int32) : Int32 := if (f3 i1 i2 i3) = (0 : Int32) then (0 : Int32) else (if (f6 y1) = (0 : Int32) then (0 : Int32) else ((1 : Int32)))
theorem pn2 : plainName "com/example/exdate/exdate/ValuesIsDecimalPinLaw" = true := by first | (simp [plainName, overriddenIn]; done) | decide +kernel
theorem pd2 : parseMethodDescriptor "([BIII)I" = some ⟨[(.array .byte), .int, .int, .int], some .int⟩ := by decide +kernel
theorem ef2 (m : MethodId) (o0 : Addr) (i1 : Int32) (i2 : Int32) (i3 : Int32) : entryFrame m #[(.ref o0), (.int i1), (.int i2), (.int i3)] 4 = mkF m 0 #[.val (.ref o0), .val (.int i1), .val (.int i2), .val (.int i3)] [] := by first | (simp [entryFrame, mkF, argsToLocals, Value.category]; done) | rfl
theorem d2_0 : decode method_6_code 0 = .ok (.iload_n 1, 1) := by decide +kernel
theorem d2_1 : decode method_6_code 1 = .ok (.iload_n 2, 1) := by decide +kernel
theorem d2_2 : decode method_6_code 2 = .ok (.iload_n 3, 1) := by decide +kernel
theorem d2_3 : decode method_6_code 3 = .ok (.invokestatic 7, 3) := by decide +kernel
theorem d2_6 : decode method_6_code 6 = .ok (.ifCond .eq 16, 3) := by decide +kernel
theorem d2_9 : decode method_6_code 9 = .ok (.aload_n 0, 1) := by decide +kernel
theorem d2_10 : decode method_6_code 10 = .ok (.iload_n 1, 1) := by decide +kernel
theorem d2_11 : decode method_6_code 11 = .ok (.baload, 1) := by decide +kernel
theorem d2_12 : decode method_6_code 12 = .ok (.invokestatic 13, 3) := by decide +kernel
theorem d2_15 : decode method_6_code 15 = .ok (.ifCond .eq 7, 3) := by decide +kernel
theorem d2_18 : decode method_6_code 18 = .ok (.iconst 1, 1) := by decide +kernel
theorem d2_19 : decode method_6_code 19 = .ok (.goto 4, 3) := by decide +kernel
theorem d2_22 : decode method_6_code 22 = .ok (.iconst 0, 1) := by decide +kernel
theorem d2_23 : decode method_6_code 23 = .ok (.ireturn, 1) := by decide +kernel
set_option maxRecDepth 65536 in
set_option maxHeartbeats 40000000 in
theorem rm2 (l : Launch) (Z : State) (a0 : Array Value) (hw : ∀ d ∈ tables_1, d.before a0 Z = true) (o0 : Addr) (i1 : Int32) (i2 : Int32) (i3 : Int32) (k1 : ClassId) (n1 : Int32) (vs : List Value) (dv : Value) (y1 : Int32) (h0 : Heap) (n0 : Nat) (Z0 : n0 ≤ h0.size) (V_o0 : Arv Z h0 o0 k1 .byte n1 vs dv) (hin : ¬ i1 < (0 : Int32) ∧ i1 < n1) (hv : vs.getD (i1).toNatClampNeg dv = .int y1) :
    Ctr l Z (⟨"com/example/exdate/exdate/ValuesIsDecimalPinLaw", "pointAt", "([BIII)I"⟩ : MethodName) method_6_code 4 (some .int) ({ frames := 1, cells := 0, slots := 0, locals := 14 } : Room) #[(.ref o0), (.int i1), (.int i2), (.int i3)] h0 n0 (fun v h' => v = some (.int (f2 i1 i2 i3 y1)) ∧ h' = h0) := by
  refine Ctr.body (L := #[.val (.ref o0), .val (.int i1), .val (.int i2), .val (.int i3)]) (plainFor_of_name pn2) Z0 (fun m => ef2 m o0 i1 i2 i3) ?_
  intro p e F m below meth c T0 C0
  refine C0.iloadN d2_0 rfl rfl ?_
  refine C0.iloadN d2_1 rfl rfl ?_
  refine C0.iloadN d2_2 rfl rfl ?_
  refine C0.callS (hw _ (List.mem_of_getElem? (i := 9) rfl)) (hw _ (List.mem_of_getElem? (i := 10) rfl)) (hw _ (List.mem_of_getElem? (i := 3) rfl)) (hw _ (List.mem_of_getElem? (i := 11) rfl)) (by decide) (rm3 l Z a0 hw i1 i2 i3 h0 n0 C0.size ) (argsL := [(.int i1), (.int i2), (.int i3)]) pd3 rfl 0 (by decide) (by decide) (by decide) (by decide) (rest := []) rfl rfl (Nat.le_of_eq rfl) d2_3 rfl (fun v1 T1 h1 C1 qq1 => ?_)
  obtain ⟨rfl, hh1⟩ := qq1
  have hh1 := hh1.symm; subst hh1
  show Go p e below F n0 (fun v h' => v = some (.int (f2 i1 i2 i3 y1)) ∧ h' = h0) T1 (mkF m 6 #[.val (.ref o0), .val (.int i1), .val (.int i2), .val (.int i3)] [(.int (f3 i1 i2 i3))])
  refine C1.if_eq d2_6 (by decide) (by decide : _ = 22) rfl (fun c6 => ?_) (fun c6 => ?_)
  · refine C1.iconst (0 : Int32) d2_22 rfl rfl ?_
    exact C1.retI d2_23 rfl (by decide) (by decide) ⟨by rw [f2, if_pos c6], rfl⟩
  · refine C1.aloadN d2_9 rfl rfl rfl ?_
    refine C1.iloadN d2_10 rfl rfl ?_
    refine C1.baload (v := y1) V_o0 hin hv d2_11 rfl ?_
    refine C1.callS (hw _ (List.mem_of_getElem? (i := 19) rfl)) (hw _ (List.mem_of_getElem? (i := 20) rfl)) (hw _ (List.mem_of_getElem? (i := 3) rfl)) (hw _ (List.mem_of_getElem? (i := 21) rfl)) (by decide) (rm6 l Z a0 hw y1 h0 n0 C1.size ) (argsL := [(.int y1)]) pd6 rfl 0 (by decide) (by decide) (by decide) (by decide) (rest := []) rfl rfl (Nat.le_of_eq rfl) d2_12 rfl (fun v2 T2 h2 C2 qq2 => ?_)
    obtain ⟨rfl, hh2⟩ := qq2
    have hh2 := hh2.symm; subst hh2
    show Go p e below F n0 (fun v h' => v = some (.int (f2 i1 i2 i3 y1)) ∧ h' = h0) T2 (mkF m 15 #[.val (.ref o0), .val (.int i1), .val (.int i2), .val (.int i3)] [(.int (f6 y1))])
    refine C2.if_eq d2_15 (by decide) (by decide : _ = 22) rfl (fun c15 => ?_) (fun c15 => ?_)
    · refine C2.iconst (0 : Int32) d2_22 rfl rfl ?_
      exact C2.retI d2_23 rfl (by decide) (by decide) ⟨by rw [f2, if_neg c6, if_pos c15], rfl⟩
    · refine C2.iconst (1 : Int32) d2_18 rfl rfl ?_
      refine C2.goto d2_19 (by decide) (by decide : _ = 23) ?_
      exact C2.retI d2_23 rfl (by decide) (by decide) ⟨by rw [f2, if_neg c6, if_neg c15], rfl⟩
def f4 (i1 : Int32) (i2 : Int32) (i3 : Int32) (y1 : Int32) : Int32 := if (f3 i1 i2 i3) = (0 : Int32) then (0 : Int32) else (if (f6 y1) = (0 : Int32) then if (f7 y1) = (0 : Int32) then (1 : Int32) else ((0 : Int32)) else ((0 : Int32)))
theorem pn4 : plainName "com/example/exdate/exdate/ValuesIsDecimalPinLaw" = true := by first | (simp [plainName, overriddenIn]; done) | decide +kernel
theorem pd4 : parseMethodDescriptor "([BIII)I" = some ⟨[(.array .byte), .int, .int, .int], some .int⟩ := by decide +kernel
theorem ef4 (m : MethodId) (o0 : Addr) (i1 : Int32) (i2 : Int32) (i3 : Int32) : entryFrame m #[(.ref o0), (.int i1), (.int i2), (.int i3)] 4 = mkF m 0 #[.val (.ref o0), .val (.int i1), .val (.int i2), .val (.int i3)] [] := by first | (simp [entryFrame, mkF, argsToLocals, Value.category]; done) | rfl
theorem d4_0 : decode method_7_code 0 = .ok (.iload_n 1, 1) := by decide +kernel
theorem d4_1 : decode method_7_code 1 = .ok (.iload_n 2, 1) := by decide +kernel
theorem d4_2 : decode method_7_code 2 = .ok (.iload_n 3, 1) := by decide +kernel
theorem d4_3 : decode method_7_code 3 = .ok (.invokestatic 7, 3) := by decide +kernel
theorem d4_6 : decode method_7_code 6 = .ok (.ifCond .eq 25, 3) := by decide +kernel
theorem d4_9 : decode method_7_code 9 = .ok (.aload_n 0, 1) := by decide +kernel
theorem d4_10 : decode method_7_code 10 = .ok (.iload_n 1, 1) := by decide +kernel
theorem d4_11 : decode method_7_code 11 = .ok (.baload, 1) := by decide +kernel
theorem d4_12 : decode method_7_code 12 = .ok (.invokestatic 13, 3) := by decide +kernel
theorem d4_15 : decode method_7_code 15 = .ok (.ifCond .ne 16, 3) := by decide +kernel
theorem d4_18 : decode method_7_code 18 = .ok (.aload_n 0, 1) := by decide +kernel
theorem d4_19 : decode method_7_code 19 = .ok (.iload_n 1, 1) := by decide +kernel
theorem d4_20 : decode method_7_code 20 = .ok (.baload, 1) := by decide +kernel
theorem d4_21 : decode method_7_code 21 = .ok (.invokestatic 17, 3) := by decide +kernel
theorem d4_24 : decode method_7_code 24 = .ok (.ifCond .ne 7, 3) := by decide +kernel
theorem d4_27 : decode method_7_code 27 = .ok (.iconst 1, 1) := by decide +kernel
theorem d4_28 : decode method_7_code 28 = .ok (.goto 4, 3) := by decide +kernel
theorem d4_31 : decode method_7_code 31 = .ok (.iconst 0, 1) := by decide +kernel
theorem d4_32 : decode method_7_code 32 = .ok (.ireturn, 1) := by decide +kernel
set_option maxRecDepth 65536 in
set_option maxHeartbeats 40000000 in
theorem rm4 (l : Launch) (Z : State) (a0 : Array Value) (hw : ∀ d ∈ tables_1, d.before a0 Z = true) (o0 : Addr) (i1 : Int32) (i2 : Int32) (i3 : Int32) (k1 : ClassId) (n1 : Int32) (vs : List Value) (dv : Value) (y1 : Int32) (h0 : Heap) (n0 : Nat) (Z0 : n0 ≤ h0.size) (V_o0 : Arv Z h0 o0 k1 .byte n1 vs dv) (hin : ¬ i1 < (0 : Int32) ∧ i1 < n1) (hv : vs.getD (i1).toNatClampNeg dv = .int y1) :
    Ctr l Z (⟨"com/example/exdate/exdate/ValuesIsDecimalPinLaw", "badAt", "([BIII)I"⟩ : MethodName) method_7_code 4 (some .int) ({ frames := 1, cells := 0, slots := 0, locals := 14 } : Room) #[(.ref o0), (.int i1), (.int i2), (.int i3)] h0 n0 (fun v h' => v = some (.int (f4 i1 i2 i3 y1)) ∧ h' = h0) := by
  refine Ctr.body (L := #[.val (.ref o0), .val (.int i1), .val (.int i2), .val (.int i3)]) (plainFor_of_name pn4) Z0 (fun m => ef4 m o0 i1 i2 i3) ?_
  intro p e F m below meth c T0 C0
  refine C0.iloadN d4_0 rfl rfl ?_
  refine C0.iloadN d4_1 rfl rfl ?_
  refine C0.iloadN d4_2 rfl rfl ?_
  refine C0.callS (hw _ (List.mem_of_getElem? (i := 9) rfl)) (hw _ (List.mem_of_getElem? (i := 10) rfl)) (hw _ (List.mem_of_getElem? (i := 3) rfl)) (hw _ (List.mem_of_getElem? (i := 11) rfl)) (by decide) (rm3 l Z a0 hw i1 i2 i3 h0 n0 C0.size ) (argsL := [(.int i1), (.int i2), (.int i3)]) pd3 rfl 0 (by decide) (by decide) (by decide) (by decide) (rest := []) rfl rfl (Nat.le_of_eq rfl) d4_3 rfl (fun v1 T1 h1 C1 qq1 => ?_)
  obtain ⟨rfl, hh1⟩ := qq1
  have hh1 := hh1.symm; subst hh1
  show Go p e below F n0 (fun v h' => v = some (.int (f4 i1 i2 i3 y1)) ∧ h' = h0) T1 (mkF m 6 #[.val (.ref o0), .val (.int i1), .val (.int i2), .val (.int i3)] [(.int (f3 i1 i2 i3))])
  refine C1.if_eq d4_6 (by decide) (by decide : _ = 31) rfl (fun c6 => ?_) (fun c6 => ?_)
  · refine C1.iconst (0 : Int32) d4_31 rfl rfl ?_
    exact C1.retI d4_32 rfl (by decide) (by decide) ⟨by rw [f4, if_pos c6], rfl⟩
  · refine C1.aloadN d4_9 rfl rfl rfl ?_
    refine C1.iloadN d4_10 rfl rfl ?_
    refine C1.baload (v := y1) V_o0 hin hv d4_11 rfl ?_
    refine C1.callS (hw _ (List.mem_of_getElem? (i := 19) rfl)) (hw _ (List.mem_of_getElem? (i := 20) rfl)) (hw _ (List.mem_of_getElem? (i := 3) rfl)) (hw _ (List.mem_of_getElem? (i := 21) rfl)) (by decide) (rm6 l Z a0 hw y1 h0 n0 C1.size ) (argsL := [(.int y1)]) pd6 rfl 0 (by decide) (by decide) (by decide) (by decide) (rest := []) rfl rfl (Nat.le_of_eq rfl) d4_12 rfl (fun v2 T2 h2 C2 qq2 => ?_)
    obtain ⟨rfl, hh2⟩ := qq2
    have hh2 := hh2.symm; subst hh2
    show Go p e below F n0 (fun v h' => v = some (.int (f4 i1 i2 i3 y1)) ∧ h' = h0) T2 (mkF m 15 #[.val (.ref o0), .val (.int i1), .val (.int i2), .val (.int i3)] [(.int (f6 y1))])
    refine C2.if_ne d4_15 (by decide) (by decide : _ = 31) rfl (fun c15 => ?_) (fun c15 => ?_)
    · refine C2.iconst (0 : Int32) d4_31 rfl rfl ?_
      exact C2.retI d4_32 rfl (by decide) (by decide) ⟨by rw [f4, if_neg c6, if_neg c15], rfl⟩
    · refine C2.aloadN d4_18 rfl rfl rfl ?_
      refine C2.iloadN d4_19 rfl rfl ?_
      refine C2.baload (v := y1) V_o0 hin hv d4_20 rfl ?_
      refine C2.callS (hw _ (List.mem_of_getElem? (i := 22) rfl)) (hw _ (List.mem_of_getElem? (i := 23) rfl)) (hw _ (List.mem_of_getElem? (i := 3) rfl)) (hw _ (List.mem_of_getElem? (i := 24) rfl)) (by decide) (rm7 l Z a0 hw y1 h0 n0 C2.size ) (argsL := [(.int y1)]) pd7 rfl 0 (by decide) (by decide) (by decide) (by decide) (rest := []) rfl rfl (Nat.le_of_eq rfl) d4_21 rfl (fun v3 T3 h3 C3 qq3 => ?_)
      obtain ⟨rfl, hh3⟩ := qq3
      have hh3 := hh3.symm; subst hh3
      show Go p e below F n0 (fun v h' => v = some (.int (f4 i1 i2 i3 y1)) ∧ h' = h0) T3 (mkF m 24 #[.val (.ref o0), .val (.int i1), .val (.int i2), .val (.int i3)] [(.int (f7 y1))])
      refine C3.if_ne d4_24 (by decide) (by decide : _ = 31) rfl (fun c24 => ?_) (fun c24 => ?_)
      · refine C3.iconst (0 : Int32) d4_31 rfl rfl ?_
        exact C3.retI d4_32 rfl (by decide) (by decide) ⟨by rw [f4, if_neg c6, if_pos c15, if_neg c24], rfl⟩
      · refine C3.iconst (1 : Int32) d4_27 rfl rfl ?_
        refine C3.goto d4_28 (by decide) (by decide : _ = 32) ?_
        exact C3.retI d4_32 rfl (by decide) (by decide) ⟨by rw [f4, if_neg c6, if_pos c15, if_pos c24], rfl⟩
set_option maxRecDepth 65536 in
set_option maxHeartbeats 40000000 in
theorem own_pre5_0 (o0 : Addr) (i1 : Int32) (i2 : Int32) (k1 : ClassId) (n1 : Int32) (vs : List Value) (dv : Value) (g : Int32 → Int32) (R : Int32) (pt : Int32) (ix : Int32) (hg : ∀ j : Int32, ¬ j < (0 : Int32) ∧ j < n1 → vs.getD j.toNatClampNeg dv = .int (g j)) (hf : ¬ i1 < (0 : Int32)) (ht : ¬ n1 < i2) (hR : R = loopD g i1 i2 (i2.toInt - i1.toInt).toNat (-1 : Int32) i1) (hk : (i2.toInt - ix.toInt).toNat = 0) (h0 : ¬ ix < (0 : Int32)) : ¬ ix < i2 := by
  clear hg hR
  have ca_0 := c_iadd ix 1
  have bl_0 := (ix).le_toInt; have bu_0 := (ix).toInt_lt
  have bl_1 := (ix + 1).le_toInt; have bu_1 := (ix + 1).toInt_lt
  have bl_2 := (i1).le_toInt; have bu_2 := (i1).toInt_lt
  have bl_3 := (i2).le_toInt; have bu_3 := (i2).toInt_lt
  have bl_4 := (n1).le_toInt; have bu_4 := (n1).toInt_lt
  try simp only [own_eqite, own_iteeq] at *
  try simp only [ne_eq, and_true, true_and, or_true, true_or, and_false, false_and, or_false, false_or, not_true_eq_false, not_false_eq_true, Int32.lt_iff_toInt_lt, Int64.lt_iff_toInt_lt, ← Int32.toInt_inj, ← Int64.toInt_inj, Int32.reduceToInt, Int64.reduceToInt] at *
  omega
set_option maxRecDepth 65536 in
set_option maxHeartbeats 40000000 in
theorem own_ret5_0 (o0 : Addr) (i1 : Int32) (i2 : Int32) (k1 : ClassId) (n1 : Int32) (vs : List Value) (dv : Value) (g : Int32 → Int32) (R : Int32) (pt : Int32) (ix : Int32) (hg : ∀ j : Int32, ¬ j < (0 : Int32) ∧ j < n1 → vs.getD j.toNatClampNeg dv = .int (g j)) (hf : ¬ i1 < (0 : Int32)) (ht : ¬ n1 < i2) (hR : R = loopD g i1 i2 (i2.toInt - i1.toInt).toNat (-1 : Int32) i1) (hk : (i2.toInt - ix.toInt).toNat = 0) (h0 : ¬ ix < (0 : Int32)) (hI : (0 : Int32) = R) : (0 : Int32) = (loopD g i1 i2 (i2.toInt - i1.toInt).toNat (-1 : Int32) i1) := by
  exact hI.trans hR
set_option maxRecDepth 65536 in
set_option maxHeartbeats 40000000 in
theorem own_ret5_1 (o0 : Addr) (i1 : Int32) (i2 : Int32) (k1 : ClassId) (n1 : Int32) (vs : List Value) (dv : Value) (g : Int32 → Int32) (R : Int32) (pt : Int32) (ix : Int32) (hg : ∀ j : Int32, ¬ j < (0 : Int32) ∧ j < n1 → vs.getD j.toNatClampNeg dv = .int (g j)) (hf : ¬ i1 < (0 : Int32)) (ht : ¬ n1 < i2) (hR : R = loopD g i1 i2 (i2.toInt - i1.toInt).toNat (-1 : Int32) i1) (hk : (i2.toInt - ix.toInt).toNat = 0) (h0 : ¬ ix < (0 : Int32)) (hI : (1 : Int32) = R) : (1 : Int32) = (loopD g i1 i2 (i2.toInt - i1.toInt).toNat (-1 : Int32) i1) := by
  exact hI.trans hR
set_option maxRecDepth 65536 in
set_option maxHeartbeats 40000000 in
theorem own_pre5_1 (o0 : Addr) (i1 : Int32) (i2 : Int32) (k1 : ClassId) (n1 : Int32) (vs : List Value) (dv : Value) (g : Int32 → Int32) (R : Int32) (k : Nat) (pt : Int32) (ix : Int32) (hg : ∀ j : Int32, ¬ j < (0 : Int32) ∧ j < n1 → vs.getD j.toNatClampNeg dv = .int (g j)) (hf : ¬ i1 < (0 : Int32)) (ht : ¬ n1 < i2) (hR : R = loopD g i1 i2 (i2.toInt - i1.toInt).toNat (-1 : Int32) i1) (hk : (i2.toInt - ix.toInt).toNat = (k + 1)) (h0 : ¬ ix < (0 : Int32)) : ix < i2 := by
  clear hg hR
  have ca_0 := c_iadd ix 1
  have bl_0 := (ix).le_toInt; have bu_0 := (ix).toInt_lt
  have bl_1 := (ix + 1).le_toInt; have bu_1 := (ix + 1).toInt_lt
  have bl_2 := (i1).le_toInt; have bu_2 := (i1).toInt_lt
  have bl_3 := (i2).le_toInt; have bu_3 := (i2).toInt_lt
  have bl_4 := (n1).le_toInt; have bu_4 := (n1).toInt_lt
  try simp only [own_eqite, own_iteeq] at *
  try simp only [ne_eq, and_true, true_and, or_true, true_or, and_false, false_and, or_false, false_or, not_true_eq_false, not_false_eq_true, Int32.lt_iff_toInt_lt, Int64.lt_iff_toInt_lt, ← Int32.toInt_inj, ← Int64.toInt_inj, Int32.reduceToInt, Int64.reduceToInt] at *
  omega
set_option maxRecDepth 65536 in
set_option maxHeartbeats 40000000 in
theorem own_pre5_2 (o0 : Addr) (i1 : Int32) (i2 : Int32) (k1 : ClassId) (n1 : Int32) (vs : List Value) (dv : Value) (g : Int32 → Int32) (R : Int32) (k : Nat) (pt : Int32) (ix : Int32) (hg : ∀ j : Int32, ¬ j < (0 : Int32) ∧ j < n1 → vs.getD j.toNatClampNeg dv = .int (g j)) (hf : ¬ i1 < (0 : Int32)) (ht : ¬ n1 < i2) (hR : R = loopD g i1 i2 (i2.toInt - i1.toInt).toNat (-1 : Int32) i1) (hk : (i2.toInt - ix.toInt).toNat = (k + 1)) (h0 : ¬ ix < (0 : Int32)) : ¬ ix < (0 : Int32) ∧ ix < n1 := by
  clear hg hR
  have ca_0 := c_iadd ix 1
  have bl_0 := (ix).le_toInt; have bu_0 := (ix).toInt_lt
  have bl_1 := (ix + 1).le_toInt; have bu_1 := (ix + 1).toInt_lt
  have bl_2 := (i1).le_toInt; have bu_2 := (i1).toInt_lt
  have bl_3 := (i2).le_toInt; have bu_3 := (i2).toInt_lt
  have bl_4 := (n1).le_toInt; have bu_4 := (n1).toInt_lt
  try simp only [own_eqite, own_iteeq] at *
  try simp only [ne_eq, and_true, true_and, or_true, true_or, and_false, false_and, or_false, false_or, not_true_eq_false, not_false_eq_true, Int32.lt_iff_toInt_lt, Int64.lt_iff_toInt_lt, ← Int32.toInt_inj, ← Int64.toInt_inj, Int32.reduceToInt, Int64.reduceToInt] at *
  omega
set_option maxRecDepth 65536 in
set_option maxHeartbeats 40000000 in
theorem own_pre5_3 (o0 : Addr) (i1 : Int32) (i2 : Int32) (k1 : ClassId) (n1 : Int32) (vs : List Value) (dv : Value) (g : Int32 → Int32) (R : Int32) (k : Nat) (pt : Int32) (ix : Int32) (hg : ∀ j : Int32, ¬ j < (0 : Int32) ∧ j < n1 → vs.getD j.toNatClampNeg dv = .int (g j)) (hf : ¬ i1 < (0 : Int32)) (ht : ¬ n1 < i2) (hR : R = loopD g i1 i2 (i2.toInt - i1.toInt).toNat (-1 : Int32) i1) (hk : (i2.toInt - ix.toInt).toNat = (k + 1)) (h0 : ¬ ix < (0 : Int32)) (c17 : ¬ (g ix) = (46 : Int32)) : ¬ ix < (0 : Int32) ∧ ix < n1 := by
  clear hg hR
  have ca_0 := c_iadd ix 1
  have bl_0 := (ix).le_toInt; have bu_0 := (ix).toInt_lt
  have bl_1 := (ix + 1).le_toInt; have bu_1 := (ix + 1).toInt_lt
  have bl_2 := (i1).le_toInt; have bu_2 := (i1).toInt_lt
  have bl_3 := (i2).le_toInt; have bu_3 := (i2).toInt_lt
  have bl_4 := (n1).le_toInt; have bu_4 := (n1).toInt_lt
  try simp only [own_eqite, own_iteeq] at *
  try simp only [ne_eq, and_true, true_and, or_true, true_or, and_false, false_and, or_false, false_or, not_true_eq_false, not_false_eq_true, Int32.lt_iff_toInt_lt, Int64.lt_iff_toInt_lt, ← Int32.toInt_inj, ← Int64.toInt_inj, Int32.reduceToInt, Int64.reduceToInt] at *
  omega
set_option maxRecDepth 65536 in
set_option maxHeartbeats 40000000 in
theorem own_ret5_2 (o0 : Addr) (i1 : Int32) (i2 : Int32) (k1 : ClassId) (n1 : Int32) (vs : List Value) (dv : Value) (g : Int32 → Int32) (R : Int32) (k : Nat) (pt : Int32) (ix : Int32) (hg : ∀ j : Int32, ¬ j < (0 : Int32) ∧ j < n1 → vs.getD j.toNatClampNeg dv = .int (g j)) (hf : ¬ i1 < (0 : Int32)) (ht : ¬ n1 < i2) (hR : R = loopD g i1 i2 (i2.toInt - i1.toInt).toNat (-1 : Int32) i1) (hk : (i2.toInt - ix.toInt).toNat = (k + 1)) (h0 : ¬ ix < (0 : Int32)) (hI : (0 : Int32) = R) : (0 : Int32) = (loopD g i1 i2 (i2.toInt - i1.toInt).toNat (-1 : Int32) i1) := by
  exact hI.trans hR
set_option maxRecDepth 65536 in
set_option maxHeartbeats 40000000 in
theorem own_pre5_4 (o0 : Addr) (i1 : Int32) (i2 : Int32) (k1 : ClassId) (n1 : Int32) (vs : List Value) (dv : Value) (g : Int32 → Int32) (R : Int32) (k : Nat) (pt : Int32) (ix : Int32) (hg : ∀ j : Int32, ¬ j < (0 : Int32) ∧ j < n1 → vs.getD j.toNatClampNeg dv = .int (g j)) (hf : ¬ i1 < (0 : Int32)) (ht : ¬ n1 < i2) (hR : R = loopD g i1 i2 (i2.toInt - i1.toInt).toNat (-1 : Int32) i1) (hk : (i2.toInt - ix.toInt).toNat = (k + 1)) (h0 : ¬ ix < (0 : Int32)) (c17 : ¬ (g ix) = (46 : Int32)) (c36 : ¬ (g ix) < (48 : Int32)) : ¬ ix < (0 : Int32) ∧ ix < n1 := by
  clear hg hR
  have ca_0 := c_iadd ix 1
  have bl_0 := (ix).le_toInt; have bu_0 := (ix).toInt_lt
  have bl_1 := (ix + 1).le_toInt; have bu_1 := (ix + 1).toInt_lt
  have bl_2 := (i1).le_toInt; have bu_2 := (i1).toInt_lt
  have bl_3 := (i2).le_toInt; have bu_3 := (i2).toInt_lt
  have bl_4 := (n1).le_toInt; have bu_4 := (n1).toInt_lt
  try simp only [own_eqite, own_iteeq] at *
  try simp only [ne_eq, and_true, true_and, or_true, true_or, and_false, false_and, or_false, false_or, not_true_eq_false, not_false_eq_true, Int32.lt_iff_toInt_lt, Int64.lt_iff_toInt_lt, ← Int32.toInt_inj, ← Int64.toInt_inj, Int32.reduceToInt, Int64.reduceToInt] at *
  omega
set_option maxRecDepth 65536 in
set_option maxHeartbeats 40000000 in
theorem own_inv5_0 (o0 : Addr) (i1 : Int32) (i2 : Int32) (k1 : ClassId) (n1 : Int32) (vs : List Value) (dv : Value) (g : Int32 → Int32) (R : Int32) (k : Nat) (pt : Int32) (ix : Int32) (hg : ∀ j : Int32, ¬ j < (0 : Int32) ∧ j < n1 → vs.getD j.toNatClampNeg dv = .int (g j)) (hf : ¬ i1 < (0 : Int32)) (ht : ¬ n1 < i2) (hR : R = loopD g i1 i2 (i2.toInt - i1.toInt).toNat (-1 : Int32) i1) (hk : (i2.toInt - ix.toInt).toNat = (k + 1)) (h0 : ¬ ix < (0 : Int32)) (c17 : ¬ (g ix) = (46 : Int32)) (c36 : ¬ (g ix) < (48 : Int32)) (c45 : ¬ (57 : Int32) < (g ix)) : (i2.toInt - (ix + (1 : Int32)).toInt).toNat = k := by
  clear hg hR
  have ca_0 := c_iadd ix 1
  have bl_0 := (ix).le_toInt; have bu_0 := (ix).toInt_lt
  have bl_1 := (ix + 1).le_toInt; have bu_1 := (ix + 1).toInt_lt
  have bl_2 := (i1).le_toInt; have bu_2 := (i1).toInt_lt
  have bl_3 := (i2).le_toInt; have bu_3 := (i2).toInt_lt
  have bl_4 := (n1).le_toInt; have bu_4 := (n1).toInt_lt
  try simp only [own_eqite, own_iteeq] at *
  try simp only [ne_eq, and_true, true_and, or_true, true_or, and_false, false_and, or_false, false_or, not_true_eq_false, not_false_eq_true, Int32.lt_iff_toInt_lt, Int64.lt_iff_toInt_lt, ← Int32.toInt_inj, ← Int64.toInt_inj, Int32.reduceToInt, Int64.reduceToInt] at *
  omega
set_option maxRecDepth 65536 in
set_option maxHeartbeats 40000000 in
theorem own_inv5_1 (o0 : Addr) (i1 : Int32) (i2 : Int32) (k1 : ClassId) (n1 : Int32) (vs : List Value) (dv : Value) (g : Int32 → Int32) (R : Int32) (k : Nat) (pt : Int32) (ix : Int32) (hg : ∀ j : Int32, ¬ j < (0 : Int32) ∧ j < n1 → vs.getD j.toNatClampNeg dv = .int (g j)) (hf : ¬ i1 < (0 : Int32)) (ht : ¬ n1 < i2) (hR : R = loopD g i1 i2 (i2.toInt - i1.toInt).toNat (-1 : Int32) i1) (hk : (i2.toInt - ix.toInt).toNat = (k + 1)) (h0 : ¬ ix < (0 : Int32)) (c17 : ¬ (g ix) = (46 : Int32)) (c36 : ¬ (g ix) < (48 : Int32)) (c45 : ¬ (57 : Int32) < (g ix)) : ¬ (ix + (1 : Int32)) < (0 : Int32) := by
  clear hg hR
  have ca_0 := c_iadd ix 1
  have bl_0 := (ix).le_toInt; have bu_0 := (ix).toInt_lt
  have bl_1 := (ix + 1).le_toInt; have bu_1 := (ix + 1).toInt_lt
  have bl_2 := (i1).le_toInt; have bu_2 := (i1).toInt_lt
  have bl_3 := (i2).le_toInt; have bu_3 := (i2).toInt_lt
  have bl_4 := (n1).le_toInt; have bu_4 := (n1).toInt_lt
  try simp only [own_eqite, own_iteeq] at *
  try simp only [ne_eq, and_true, true_and, or_true, true_or, and_false, false_and, or_false, false_or, not_true_eq_false, not_false_eq_true, Int32.lt_iff_toInt_lt, Int64.lt_iff_toInt_lt, ← Int32.toInt_inj, ← Int64.toInt_inj, Int32.reduceToInt, Int64.reduceToInt] at *
  omega
set_option maxRecDepth 65536 in
set_option maxHeartbeats 40000000 in
theorem own_pre5_5 (o0 : Addr) (i1 : Int32) (i2 : Int32) (k1 : ClassId) (n1 : Int32) (vs : List Value) (dv : Value) (g : Int32 → Int32) (R : Int32) (k : Nat) (pt : Int32) (ix : Int32) (hg : ∀ j : Int32, ¬ j < (0 : Int32) ∧ j < n1 → vs.getD j.toNatClampNeg dv = .int (g j)) (hf : ¬ i1 < (0 : Int32)) (ht : ¬ n1 < i2) (hR : R = loopD g i1 i2 (i2.toInt - i1.toInt).toNat (-1 : Int32) i1) (hk : (i2.toInt - ix.toInt).toNat = (k + 1)) (h0 : ¬ ix < (0 : Int32)) (c17 : (g ix) = (46 : Int32)) (c21 : ¬ pt < (0 : Int32)) : ¬ ix < (0 : Int32) ∧ ix < n1 := by
  clear hg hR
  have ca_0 := c_iadd ix 1
  have bl_0 := (ix).le_toInt; have bu_0 := (ix).toInt_lt
  have bl_1 := (ix + 1).le_toInt; have bu_1 := (ix + 1).toInt_lt
  have bl_2 := (i1).le_toInt; have bu_2 := (i1).toInt_lt
  have bl_3 := (i2).le_toInt; have bu_3 := (i2).toInt_lt
  have bl_4 := (n1).le_toInt; have bu_4 := (n1).toInt_lt
  try simp only [own_eqite, own_iteeq] at *
  try simp only [ne_eq, and_true, true_and, or_true, true_or, and_false, false_and, or_false, false_or, not_true_eq_false, not_false_eq_true, Int32.lt_iff_toInt_lt, Int64.lt_iff_toInt_lt, ← Int32.toInt_inj, ← Int64.toInt_inj, Int32.reduceToInt, Int64.reduceToInt] at *
  omega
set_option maxRecDepth 65536 in
set_option maxHeartbeats 40000000 in
theorem own_pre5_6 (o0 : Addr) (i1 : Int32) (i2 : Int32) (k1 : ClassId) (n1 : Int32) (vs : List Value) (dv : Value) (g : Int32 → Int32) (R : Int32) (k : Nat) (pt : Int32) (ix : Int32) (hg : ∀ j : Int32, ¬ j < (0 : Int32) ∧ j < n1 → vs.getD j.toNatClampNeg dv = .int (g j)) (hf : ¬ i1 < (0 : Int32)) (ht : ¬ n1 < i2) (hR : R = loopD g i1 i2 (i2.toInt - i1.toInt).toNat (-1 : Int32) i1) (hk : (i2.toInt - ix.toInt).toNat = (k + 1)) (h0 : ¬ ix < (0 : Int32)) (c17 : (g ix) = (46 : Int32)) (c21 : ¬ pt < (0 : Int32)) (c36 : ¬ (g ix) < (48 : Int32)) : ¬ ix < (0 : Int32) ∧ ix < n1 := by
  clear hg hR
  have ca_0 := c_iadd ix 1
  have bl_0 := (ix).le_toInt; have bu_0 := (ix).toInt_lt
  have bl_1 := (ix + 1).le_toInt; have bu_1 := (ix + 1).toInt_lt
  have bl_2 := (i1).le_toInt; have bu_2 := (i1).toInt_lt
  have bl_3 := (i2).le_toInt; have bu_3 := (i2).toInt_lt
  have bl_4 := (n1).le_toInt; have bu_4 := (n1).toInt_lt
  try simp only [own_eqite, own_iteeq] at *
  try simp only [ne_eq, and_true, true_and, or_true, true_or, and_false, false_and, or_false, false_or, not_true_eq_false, not_false_eq_true, Int32.lt_iff_toInt_lt, Int64.lt_iff_toInt_lt, ← Int32.toInt_inj, ← Int64.toInt_inj, Int32.reduceToInt, Int64.reduceToInt] at *
  omega
set_option maxRecDepth 65536 in
set_option maxHeartbeats 40000000 in
theorem own_inv5_2 (o0 : Addr) (i1 : Int32) (i2 : Int32) (k1 : ClassId) (n1 : Int32) (vs : List Value) (dv : Value) (g : Int32 → Int32) (R : Int32) (k : Nat) (pt : Int32) (ix : Int32) (hg : ∀ j : Int32, ¬ j < (0 : Int32) ∧ j < n1 → vs.getD j.toNatClampNeg dv = .int (g j)) (hf : ¬ i1 < (0 : Int32)) (ht : ¬ n1 < i2) (hR : R = loopD g i1 i2 (i2.toInt - i1.toInt).toNat (-1 : Int32) i1) (hk : (i2.toInt - ix.toInt).toNat = (k + 1)) (h0 : ¬ ix < (0 : Int32)) (c17 : (g ix) = (46 : Int32)) (c21 : ¬ pt < (0 : Int32)) (c36 : ¬ (g ix) < (48 : Int32)) (c45 : ¬ (57 : Int32) < (g ix)) : (i2.toInt - (ix + (1 : Int32)).toInt).toNat = k := by
  clear hg hR
  have ca_0 := c_iadd ix 1
  have bl_0 := (ix).le_toInt; have bu_0 := (ix).toInt_lt
  have bl_1 := (ix + 1).le_toInt; have bu_1 := (ix + 1).toInt_lt
  have bl_2 := (i1).le_toInt; have bu_2 := (i1).toInt_lt
  have bl_3 := (i2).le_toInt; have bu_3 := (i2).toInt_lt
  have bl_4 := (n1).le_toInt; have bu_4 := (n1).toInt_lt
  try simp only [own_eqite, own_iteeq] at *
  try simp only [ne_eq, and_true, true_and, or_true, true_or, and_false, false_and, or_false, false_or, not_true_eq_false, not_false_eq_true, Int32.lt_iff_toInt_lt, Int64.lt_iff_toInt_lt, ← Int32.toInt_inj, ← Int64.toInt_inj, Int32.reduceToInt, Int64.reduceToInt] at *
  omega
set_option maxRecDepth 65536 in
set_option maxHeartbeats 40000000 in
theorem own_inv5_3 (o0 : Addr) (i1 : Int32) (i2 : Int32) (k1 : ClassId) (n1 : Int32) (vs : List Value) (dv : Value) (g : Int32 → Int32) (R : Int32) (k : Nat) (pt : Int32) (ix : Int32) (hg : ∀ j : Int32, ¬ j < (0 : Int32) ∧ j < n1 → vs.getD j.toNatClampNeg dv = .int (g j)) (hf : ¬ i1 < (0 : Int32)) (ht : ¬ n1 < i2) (hR : R = loopD g i1 i2 (i2.toInt - i1.toInt).toNat (-1 : Int32) i1) (hk : (i2.toInt - ix.toInt).toNat = (k + 1)) (h0 : ¬ ix < (0 : Int32)) (c17 : (g ix) = (46 : Int32)) (c21 : ¬ pt < (0 : Int32)) (c36 : ¬ (g ix) < (48 : Int32)) (c45 : ¬ (57 : Int32) < (g ix)) : ¬ (ix + (1 : Int32)) < (0 : Int32) := by
  clear hg hR
  have ca_0 := c_iadd ix 1
  have bl_0 := (ix).le_toInt; have bu_0 := (ix).toInt_lt
  have bl_1 := (ix + 1).le_toInt; have bu_1 := (ix + 1).toInt_lt
  have bl_2 := (i1).le_toInt; have bu_2 := (i1).toInt_lt
  have bl_3 := (i2).le_toInt; have bu_3 := (i2).toInt_lt
  have bl_4 := (n1).le_toInt; have bu_4 := (n1).toInt_lt
  try simp only [own_eqite, own_iteeq] at *
  try simp only [ne_eq, and_true, true_and, or_true, true_or, and_false, false_and, or_false, false_or, not_true_eq_false, not_false_eq_true, Int32.lt_iff_toInt_lt, Int64.lt_iff_toInt_lt, ← Int32.toInt_inj, ← Int64.toInt_inj, Int32.reduceToInt, Int64.reduceToInt] at *
  omega
set_option maxRecDepth 65536 in
set_option maxHeartbeats 40000000 in
theorem own_inv5_4 (o0 : Addr) (i1 : Int32) (i2 : Int32) (k1 : ClassId) (n1 : Int32) (vs : List Value) (dv : Value) (g : Int32 → Int32) (R : Int32) (k : Nat) (pt : Int32) (ix : Int32) (hg : ∀ j : Int32, ¬ j < (0 : Int32) ∧ j < n1 → vs.getD j.toNatClampNeg dv = .int (g j)) (hf : ¬ i1 < (0 : Int32)) (ht : ¬ n1 < i2) (hR : R = loopD g i1 i2 (i2.toInt - i1.toInt).toNat (-1 : Int32) i1) (hk : (i2.toInt - ix.toInt).toNat = (k + 1)) (h0 : ¬ ix < (0 : Int32)) (c17 : (g ix) = (46 : Int32)) (c21 : pt < (0 : Int32)) : (i2.toInt - (ix + (1 : Int32)).toInt).toNat = k := by
  clear hg hR
  have ca_0 := c_iadd ix 1
  have bl_0 := (ix).le_toInt; have bu_0 := (ix).toInt_lt
  have bl_1 := (ix + 1).le_toInt; have bu_1 := (ix + 1).toInt_lt
  have bl_2 := (i1).le_toInt; have bu_2 := (i1).toInt_lt
  have bl_3 := (i2).le_toInt; have bu_3 := (i2).toInt_lt
  have bl_4 := (n1).le_toInt; have bu_4 := (n1).toInt_lt
  try simp only [own_eqite, own_iteeq] at *
  try simp only [ne_eq, and_true, true_and, or_true, true_or, and_false, false_and, or_false, false_or, not_true_eq_false, not_false_eq_true, Int32.lt_iff_toInt_lt, Int64.lt_iff_toInt_lt, ← Int32.toInt_inj, ← Int64.toInt_inj, Int32.reduceToInt, Int64.reduceToInt] at *
  omega
set_option maxRecDepth 65536 in
set_option maxHeartbeats 40000000 in
theorem own_inv5_5 (o0 : Addr) (i1 : Int32) (i2 : Int32) (k1 : ClassId) (n1 : Int32) (vs : List Value) (dv : Value) (g : Int32 → Int32) (R : Int32) (k : Nat) (pt : Int32) (ix : Int32) (hg : ∀ j : Int32, ¬ j < (0 : Int32) ∧ j < n1 → vs.getD j.toNatClampNeg dv = .int (g j)) (hf : ¬ i1 < (0 : Int32)) (ht : ¬ n1 < i2) (hR : R = loopD g i1 i2 (i2.toInt - i1.toInt).toNat (-1 : Int32) i1) (hk : (i2.toInt - ix.toInt).toNat = (k + 1)) (h0 : ¬ ix < (0 : Int32)) (c17 : (g ix) = (46 : Int32)) (c21 : pt < (0 : Int32)) : ¬ (ix + (1 : Int32)) < (0 : Int32) := by
  clear hg hR
  have ca_0 := c_iadd ix 1
  have bl_0 := (ix).le_toInt; have bu_0 := (ix).toInt_lt
  have bl_1 := (ix + 1).le_toInt; have bu_1 := (ix + 1).toInt_lt
  have bl_2 := (i1).le_toInt; have bu_2 := (i1).toInt_lt
  have bl_3 := (i2).le_toInt; have bu_3 := (i2).toInt_lt
  have bl_4 := (n1).le_toInt; have bu_4 := (n1).toInt_lt
  try simp only [own_eqite, own_iteeq] at *
  try simp only [ne_eq, and_true, true_and, or_true, true_or, and_false, false_and, or_false, false_or, not_true_eq_false, not_false_eq_true, Int32.lt_iff_toInt_lt, Int64.lt_iff_toInt_lt, ← Int32.toInt_inj, ← Int64.toInt_inj, Int32.reduceToInt, Int64.reduceToInt] at *
  omega
theorem pn5 : plainName "com/example/exdate/exdate/Values" = true := by first | (simp [plainName, overriddenIn]; done) | decide +kernel
theorem pd5 : parseMethodDescriptor "([BII)Z" = some ⟨[(.array .byte), .int, .int], some .boolean⟩ := by decide +kernel
theorem ef5 (m : MethodId) (o0 : Addr) (i1 : Int32) (i2 : Int32) : entryFrame m #[(.ref o0), (.int i1), (.int i2)] 5 = mkF m 0 #[.val (.ref o0), .val (.int i1), .val (.int i2), .unset, .unset] [] := by first | (simp [entryFrame, mkF, argsToLocals, Value.category]; done) | rfl
theorem d5_0 : decode prog_32_method_6_code 0 = .ok (.iconst (-1), 1) := by decide +kernel
theorem d5_1 : decode prog_32_method_6_code 1 = .ok (.istore_n 3, 1) := by decide +kernel
theorem d5_2 : decode prog_32_method_6_code 2 = .ok (.iload_n 1, 1) := by decide +kernel
theorem d5_3 : decode prog_32_method_6_code 3 = .ok (.istore 4, 2) := by decide +kernel
theorem d5_5 : decode prog_32_method_6_code 5 = .ok (.iload 4, 2) := by decide +kernel
theorem d5_7 : decode prog_32_method_6_code 7 = .ok (.iload_n 2, 1) := by decide +kernel
theorem d5_8 : decode prog_32_method_6_code 8 = .ok (.if_icmp .ge 48, 3) := by decide +kernel
theorem d5_11 : decode prog_32_method_6_code 11 = .ok (.aload_n 0, 1) := by decide +kernel
theorem d5_12 : decode prog_32_method_6_code 12 = .ok (.iload 4, 2) := by decide +kernel
theorem d5_14 : decode prog_32_method_6_code 14 = .ok (.baload, 1) := by decide +kernel
theorem d5_15 : decode prog_32_method_6_code 15 = .ok (.bipush 46, 2) := by decide +kernel
theorem d5_17 : decode prog_32_method_6_code 17 = .ok (.if_icmp .ne 13, 3) := by decide +kernel
theorem d5_20 : decode prog_32_method_6_code 20 = .ok (.iload_n 3, 1) := by decide +kernel
theorem d5_21 : decode prog_32_method_6_code 21 = .ok (.ifCond .ge 9, 3) := by decide +kernel
theorem d5_24 : decode prog_32_method_6_code 24 = .ok (.iload 4, 2) := by decide +kernel
theorem d5_26 : decode prog_32_method_6_code 26 = .ok (.istore_n 3, 1) := by decide +kernel
theorem d5_27 : decode prog_32_method_6_code 27 = .ok (.goto 23, 3) := by decide +kernel
theorem d5_30 : decode prog_32_method_6_code 30 = .ok (.aload_n 0, 1) := by decide +kernel
theorem d5_31 : decode prog_32_method_6_code 31 = .ok (.iload 4, 2) := by decide +kernel
theorem d5_33 : decode prog_32_method_6_code 33 = .ok (.baload, 1) := by decide +kernel
theorem d5_34 : decode prog_32_method_6_code 34 = .ok (.bipush 48, 2) := by decide +kernel
theorem d5_36 : decode prog_32_method_6_code 36 = .ok (.if_icmp .lt 12, 3) := by decide +kernel
theorem d5_39 : decode prog_32_method_6_code 39 = .ok (.aload_n 0, 1) := by decide +kernel
theorem d5_40 : decode prog_32_method_6_code 40 = .ok (.iload 4, 2) := by decide +kernel
theorem d5_42 : decode prog_32_method_6_code 42 = .ok (.baload, 1) := by decide +kernel
theorem d5_43 : decode prog_32_method_6_code 43 = .ok (.bipush 57, 2) := by decide +kernel
theorem d5_45 : decode prog_32_method_6_code 45 = .ok (.if_icmp .le 5, 3) := by decide +kernel
theorem d5_48 : decode prog_32_method_6_code 48 = .ok (.iconst 0, 1) := by decide +kernel
theorem d5_49 : decode prog_32_method_6_code 49 = .ok (.ireturn, 1) := by decide +kernel
theorem d5_50 : decode prog_32_method_6_code 50 = .ok (.iinc 4 1, 3) := by decide +kernel
theorem d5_53 : decode prog_32_method_6_code 53 = .ok (.goto (-48), 3) := by decide +kernel
theorem d5_56 : decode prog_32_method_6_code 56 = .ok (.iload_n 3, 1) := by decide +kernel
theorem d5_57 : decode prog_32_method_6_code 57 = .ok (.ifCond .ge 16, 3) := by decide +kernel
theorem d5_60 : decode prog_32_method_6_code 60 = .ok (.iload_n 2, 1) := by decide +kernel
theorem d5_61 : decode prog_32_method_6_code 61 = .ok (.iload_n 1, 1) := by decide +kernel
theorem d5_62 : decode prog_32_method_6_code 62 = .ok (.if_icmp .le 7, 3) := by decide +kernel
theorem d5_65 : decode prog_32_method_6_code 65 = .ok (.iconst 1, 1) := by decide +kernel
theorem d5_66 : decode prog_32_method_6_code 66 = .ok (.goto 24, 3) := by decide +kernel
theorem d5_69 : decode prog_32_method_6_code 69 = .ok (.iconst 0, 1) := by decide +kernel
theorem d5_70 : decode prog_32_method_6_code 70 = .ok (.goto 20, 3) := by decide +kernel
theorem d5_73 : decode prog_32_method_6_code 73 = .ok (.iload_n 3, 1) := by decide +kernel
theorem d5_74 : decode prog_32_method_6_code 74 = .ok (.iload_n 1, 1) := by decide +kernel
theorem d5_75 : decode prog_32_method_6_code 75 = .ok (.if_icmp .le 14, 3) := by decide +kernel
theorem d5_78 : decode prog_32_method_6_code 78 = .ok (.iload_n 3, 1) := by decide +kernel
theorem d5_79 : decode prog_32_method_6_code 79 = .ok (.iload_n 2, 1) := by decide +kernel
theorem d5_80 : decode prog_32_method_6_code 80 = .ok (.iconst 1, 1) := by decide +kernel
theorem d5_81 : decode prog_32_method_6_code 81 = .ok (.isub, 1) := by decide +kernel
theorem d5_82 : decode prog_32_method_6_code 82 = .ok (.if_icmp .ge 7, 3) := by decide +kernel
theorem d5_85 : decode prog_32_method_6_code 85 = .ok (.iconst 1, 1) := by decide +kernel
theorem d5_86 : decode prog_32_method_6_code 86 = .ok (.goto 4, 3) := by decide +kernel
theorem d5_89 : decode prog_32_method_6_code 89 = .ok (.iconst 0, 1) := by decide +kernel
theorem d5_90 : decode prog_32_method_6_code 90 = .ok (.ireturn, 1) := by decide +kernel
set_option maxRecDepth 65536 in
set_option maxHeartbeats 40000000 in
theorem rm5 (l : Launch) (Z : State) (a0 : Array Value) (hw : ∀ d ∈ tables_1, d.before a0 Z = true) (o0 : Addr) (i1 : Int32) (i2 : Int32) (k1 : ClassId) (n1 : Int32) (vs : List Value) (dv : Value) (g : Int32 → Int32) (h0 : Heap) (n0 : Nat) (Z0 : n0 ≤ h0.size) (V_o0 : Arv Z h0 o0 k1 .byte n1 vs dv) (hg : ∀ j : Int32, ¬ j < (0 : Int32) ∧ j < n1 → vs.getD j.toNatClampNeg dv = .int (g j)) (hf : ¬ i1 < (0 : Int32)) (ht : ¬ n1 < i2) :
    Ctr l Z (⟨"com/example/exdate/exdate/Values", "isDecimal", "([BII)Z"⟩ : MethodName) prog_32_method_6_code 5 (some .boolean) ({ frames := 0, cells := 0, slots := 0, locals := 0 } : Room) #[(.ref o0), (.int i1), (.int i2)] h0 n0 (fun v h' => v = some (.int (loopD g i1 i2 (i2.toInt - i1.toInt).toNat (-1 : Int32) i1)) ∧ h' = h0) := by
  refine Ctr.body (L := #[.val (.ref o0), .val (.int i1), .val (.int i2), .unset, .unset]) (plainFor_of_name pn5) Z0 (fun m => ef5 m o0 i1 i2) ?_
  intro p e F m below meth c T0 C0
  refine C0.iconst (-1 : Int32) d5_0 rfl rfl ?_
  refine C0.istoreN d5_1 rfl (L' := #[.val (.ref o0), .val (.int i1), .val (.int i2), .val (.int (-1 : Int32)), .unset]) rfl ?_
  refine C0.iloadN d5_2 rfl rfl ?_
  refine C0.istore d5_3 rfl (L' := #[.val (.ref o0), .val (.int i1), .val (.int i2), .val (.int (-1 : Int32)), .val (.int i1)]) rfl ?_
  obtain ⟨R, hR⟩ : ∃ z, z = loopD g i1 i2 (i2.toInt - i1.toInt).toNat (-1 : Int32) i1 := ⟨_, rfl⟩
  have LP : ∀ (k : Nat) (T : State) (pt : Int32) (ix : Int32), Cx p l e ({ frames := 0, cells := 0, slots := 0, locals := 0 } : Room) m #[(.ref o0), (.int i1), (.int i2)] below meth c Z (⟨"com/example/exdate/exdate/Values", "isDecimal", "([BII)Z"⟩ : MethodName) prog_32_method_6_code 5 (some .boolean) n0 false F T h0 0 0 → loopD g i1 i2 k pt ix = R → ((i2.toInt - ix.toInt).toNat = k) → (¬ ix < (0 : Int32)) → Go p e below F n0 (fun v h' => v = some (.int (loopD g i1 i2 (i2.toInt - i1.toInt).toNat (-1 : Int32) i1)) ∧ h' = h0) T (mkF m 5 #[.val (.ref o0), .val (.int i1), .val (.int i2), .val (.int pt), .val (.int ix)] []) := by
    intro k
    induction k with
    | zero =>
      intro T1 pt ix C1 hI hk h0
      refine C1.iload d5_5 rfl rfl ?_
      refine C1.iloadN d5_7 rfl rfl ?_
      refine C1.icmp_ge d5_8 (by decide) (by decide : _ = 56) rfl (fun _ => ?_) (fun q => absurd q (own_pre5_0 o0 i1 i2 k1 n1 vs dv g R pt ix hg hf ht hR hk h0))
      refine C1.iloadN d5_56 rfl rfl ?_
      refine C1.if_ge d5_57 (by decide) (by decide : _ = 73) rfl (fun c57 => ?_) (fun c57 => ?_)
      · refine C1.iloadN d5_73 rfl rfl ?_
        refine C1.iloadN d5_74 rfl rfl ?_
        refine C1.icmp_le d5_75 (by decide) (by decide : _ = 89) rfl (fun c75 => ?_) (fun c75 => ?_)
        · refine C1.iconst (0 : Int32) d5_89 rfl rfl ?_
          simp only [loopD, if_neg c57, if_neg c75] at hI
          exact C1.retN (t := .boolean) d5_90 rfl (by simp) (by decide) (by decide) (w := (0 : Int32)) rfl ⟨congrArg (fun z => some (Value.int z)) (own_ret5_0 o0 i1 i2 k1 n1 vs dv g R pt ix hg hf ht hR hk h0 hI), rfl⟩
        · refine C1.iloadN d5_78 rfl rfl ?_
          refine C1.iloadN d5_79 rfl rfl ?_
          refine C1.iconst (1 : Int32) d5_80 rfl rfl ?_
          refine C1.isub d5_81 rfl ?_
          refine C1.icmp_ge d5_82 (by decide) (by decide : _ = 89) rfl (fun c82 => ?_) (fun c82 => ?_)
          · refine C1.iconst (0 : Int32) d5_89 rfl rfl ?_
            simp only [loopD, if_neg c57, if_pos c75, if_neg c82] at hI
            exact C1.retN (t := .boolean) d5_90 rfl (by simp) (by decide) (by decide) (w := (0 : Int32)) rfl ⟨congrArg (fun z => some (Value.int z)) (own_ret5_0 o0 i1 i2 k1 n1 vs dv g R pt ix hg hf ht hR hk h0 hI), rfl⟩
          · refine C1.iconst (1 : Int32) d5_85 rfl rfl ?_
            refine C1.goto d5_86 (by decide) (by decide : _ = 90) ?_
            simp only [loopD, if_neg c57, if_pos c75, if_pos c82] at hI
            exact C1.retN (t := .boolean) d5_90 rfl (by simp) (by decide) (by decide) (w := (1 : Int32)) rfl ⟨congrArg (fun z => some (Value.int z)) (own_ret5_1 o0 i1 i2 k1 n1 vs dv g R pt ix hg hf ht hR hk h0 hI), rfl⟩
      · refine C1.iloadN d5_60 rfl rfl ?_
        refine C1.iloadN d5_61 rfl rfl ?_
        refine C1.icmp_le d5_62 (by decide) (by decide : _ = 69) rfl (fun c62 => ?_) (fun c62 => ?_)
        · refine C1.iconst (0 : Int32) d5_69 rfl rfl ?_
          refine C1.goto d5_70 (by decide) (by decide : _ = 90) ?_
          simp only [loopD, if_pos c57, if_neg c62] at hI
          exact C1.retN (t := .boolean) d5_90 rfl (by simp) (by decide) (by decide) (w := (0 : Int32)) rfl ⟨congrArg (fun z => some (Value.int z)) (own_ret5_0 o0 i1 i2 k1 n1 vs dv g R pt ix hg hf ht hR hk h0 hI), rfl⟩
        · refine C1.iconst (1 : Int32) d5_65 rfl rfl ?_
          refine C1.goto d5_66 (by decide) (by decide : _ = 90) ?_
          simp only [loopD, if_pos c57, if_pos c62] at hI
          exact C1.retN (t := .boolean) d5_90 rfl (by simp) (by decide) (by decide) (w := (1 : Int32)) rfl ⟨congrArg (fun z => some (Value.int z)) (own_ret5_1 o0 i1 i2 k1 n1 vs dv g R pt ix hg hf ht hR hk h0 hI), rfl⟩
    | succ k ih =>
      intro T2 pt ix C2 hI hk h0
      refine C2.iload d5_5 rfl rfl ?_
      refine C2.iloadN d5_7 rfl rfl ?_
      refine C2.icmp_ge d5_8 (by decide) (by decide : _ = 56) rfl (fun q => absurd (own_pre5_1 o0 i1 i2 k1 n1 vs dv g R k pt ix hg hf ht hR hk h0) q) (fun _ => ?_)
      refine C2.aloadN d5_11 rfl rfl rfl ?_
      refine C2.iload d5_12 rfl rfl ?_
      refine C2.baload (v := (g ix)) V_o0 (own_pre5_2 o0 i1 i2 k1 n1 vs dv g R k pt ix hg hf ht hR hk h0) (hg ix (own_pre5_2 o0 i1 i2 k1 n1 vs dv g R k pt ix hg hf ht hR hk h0)) d5_14 rfl ?_
      refine C2.bipush (46 : Int32) d5_15 rfl rfl ?_
      refine C2.icmp_ne d5_17 (by decide) (by decide : _ = 30) rfl (fun c17 => ?_) (fun c17 => ?_)
      · refine C2.aloadN d5_30 rfl rfl rfl ?_
        refine C2.iload d5_31 rfl rfl ?_
        refine C2.baload (v := (g ix)) V_o0 (own_pre5_3 o0 i1 i2 k1 n1 vs dv g R k pt ix hg hf ht hR hk h0 c17) (hg ix (own_pre5_3 o0 i1 i2 k1 n1 vs dv g R k pt ix hg hf ht hR hk h0 c17)) d5_33 rfl ?_
        refine C2.bipush (48 : Int32) d5_34 rfl rfl ?_
        refine C2.icmp_lt d5_36 (by decide) (by decide : _ = 48) rfl (fun c36 => ?_) (fun c36 => ?_)
        · refine C2.iconst (0 : Int32) d5_48 rfl rfl ?_
          simp only [loopD, if_neg c17, if_pos c36] at hI
          exact C2.retN (t := .boolean) d5_49 rfl (by simp) (by decide) (by decide) (w := (0 : Int32)) rfl ⟨congrArg (fun z => some (Value.int z)) (own_ret5_2 o0 i1 i2 k1 n1 vs dv g R k pt ix hg hf ht hR hk h0 hI), rfl⟩
        · refine C2.aloadN d5_39 rfl rfl rfl ?_
          refine C2.iload d5_40 rfl rfl ?_
          refine C2.baload (v := (g ix)) V_o0 (own_pre5_4 o0 i1 i2 k1 n1 vs dv g R k pt ix hg hf ht hR hk h0 c17 c36) (hg ix (own_pre5_4 o0 i1 i2 k1 n1 vs dv g R k pt ix hg hf ht hR hk h0 c17 c36)) d5_42 rfl ?_
          refine C2.bipush (57 : Int32) d5_43 rfl rfl ?_
          refine C2.icmp_le d5_45 (by decide) (by decide : _ = 50) rfl (fun c45 => ?_) (fun c45 => ?_)
          · refine C2.iinc (1 : Int32) d5_50 rfl rfl rfl (L' := #[.val (.ref o0), .val (.int i1), .val (.int i2), .val (.int pt), .val (.int (ix + (1 : Int32)))]) rfl ?_
            refine C2.goto d5_53 (by decide) (by decide : _ = 5) ?_
            simp only [loopD, if_neg c17, if_neg c36, if_neg c45] at hI
            exact ih _ pt (ix + (1 : Int32)) C2 hI (own_inv5_0 o0 i1 i2 k1 n1 vs dv g R k pt ix hg hf ht hR hk h0 c17 c36 c45) (own_inv5_1 o0 i1 i2 k1 n1 vs dv g R k pt ix hg hf ht hR hk h0 c17 c36 c45)
          · refine C2.iconst (0 : Int32) d5_48 rfl rfl ?_
            simp only [loopD, if_neg c17, if_neg c36, if_pos c45] at hI
            exact C2.retN (t := .boolean) d5_49 rfl (by simp) (by decide) (by decide) (w := (0 : Int32)) rfl ⟨congrArg (fun z => some (Value.int z)) (own_ret5_2 o0 i1 i2 k1 n1 vs dv g R k pt ix hg hf ht hR hk h0 hI), rfl⟩
      · refine C2.iloadN d5_20 rfl rfl ?_
        refine C2.if_ge d5_21 (by decide) (by decide : _ = 30) rfl (fun c21 => ?_) (fun c21 => ?_)
        · refine C2.aloadN d5_30 rfl rfl rfl ?_
          refine C2.iload d5_31 rfl rfl ?_
          refine C2.baload (v := (g ix)) V_o0 (own_pre5_5 o0 i1 i2 k1 n1 vs dv g R k pt ix hg hf ht hR hk h0 c17 c21) (hg ix (own_pre5_5 o0 i1 i2 k1 n1 vs dv g R k pt ix hg hf ht hR hk h0 c17 c21)) d5_33 rfl ?_
          refine C2.bipush (48 : Int32) d5_34 rfl rfl ?_
          refine C2.icmp_lt d5_36 (by decide) (by decide : _ = 48) rfl (fun c36 => ?_) (fun c36 => ?_)
          · refine C2.iconst (0 : Int32) d5_48 rfl rfl ?_
            simp only [loopD, if_pos c17, if_neg c21, if_pos c36] at hI
            exact C2.retN (t := .boolean) d5_49 rfl (by simp) (by decide) (by decide) (w := (0 : Int32)) rfl ⟨congrArg (fun z => some (Value.int z)) (own_ret5_2 o0 i1 i2 k1 n1 vs dv g R k pt ix hg hf ht hR hk h0 hI), rfl⟩
          · refine C2.aloadN d5_39 rfl rfl rfl ?_
            refine C2.iload d5_40 rfl rfl ?_
            refine C2.baload (v := (g ix)) V_o0 (own_pre5_6 o0 i1 i2 k1 n1 vs dv g R k pt ix hg hf ht hR hk h0 c17 c21 c36) (hg ix (own_pre5_6 o0 i1 i2 k1 n1 vs dv g R k pt ix hg hf ht hR hk h0 c17 c21 c36)) d5_42 rfl ?_
            refine C2.bipush (57 : Int32) d5_43 rfl rfl ?_
            refine C2.icmp_le d5_45 (by decide) (by decide : _ = 50) rfl (fun c45 => ?_) (fun c45 => ?_)
            · refine C2.iinc (1 : Int32) d5_50 rfl rfl rfl (L' := #[.val (.ref o0), .val (.int i1), .val (.int i2), .val (.int pt), .val (.int (ix + (1 : Int32)))]) rfl ?_
              refine C2.goto d5_53 (by decide) (by decide : _ = 5) ?_
              simp only [loopD, if_pos c17, if_neg c21, if_neg c36, if_neg c45] at hI
              exact ih _ pt (ix + (1 : Int32)) C2 hI (own_inv5_2 o0 i1 i2 k1 n1 vs dv g R k pt ix hg hf ht hR hk h0 c17 c21 c36 c45) (own_inv5_3 o0 i1 i2 k1 n1 vs dv g R k pt ix hg hf ht hR hk h0 c17 c21 c36 c45)
            · refine C2.iconst (0 : Int32) d5_48 rfl rfl ?_
              simp only [loopD, if_pos c17, if_neg c21, if_neg c36, if_pos c45] at hI
              exact C2.retN (t := .boolean) d5_49 rfl (by simp) (by decide) (by decide) (w := (0 : Int32)) rfl ⟨congrArg (fun z => some (Value.int z)) (own_ret5_2 o0 i1 i2 k1 n1 vs dv g R k pt ix hg hf ht hR hk h0 hI), rfl⟩
        · refine C2.iload d5_24 rfl rfl ?_
          refine C2.istoreN d5_26 rfl (L' := #[.val (.ref o0), .val (.int i1), .val (.int i2), .val (.int ix), .val (.int ix)]) rfl ?_
          refine C2.goto d5_27 (by decide) (by decide : _ = 50) ?_
          refine C2.iinc (1 : Int32) d5_50 rfl rfl rfl (L' := #[.val (.ref o0), .val (.int i1), .val (.int i2), .val (.int ix), .val (.int (ix + (1 : Int32)))]) rfl ?_
          refine C2.goto d5_53 (by decide) (by decide : _ = 5) ?_
          simp only [loopD, if_pos c17, if_pos c21] at hI
          exact ih _ ix (ix + (1 : Int32)) C2 hI (own_inv5_4 o0 i1 i2 k1 n1 vs dv g R k pt ix hg hf ht hR hk h0 c17 c21) (own_inv5_5 o0 i1 i2 k1 n1 vs dv g R k pt ix hg hf ht hR hk h0 c17 c21)
  exact LP _ _ (-1 : Int32) i1 C0 hR.symm rfl hf
theorem own_getM {α β : Type} (f : α → β) (l : List α) (i : Nat) (d : α) : (l.map f).getD i (f d) = f (l.getD i d) := by
  simp only [List.getD_eq_getElem?_getD, List.getElem?_map]; cases l[i]? <;> rfl
theorem own_mem5 (x : Int32) (h : 0 ≤ x.toInt) (h' : x.toInt ≤ 5) : x ∈ ([(0 : Int32), (1 : Int32), (2 : Int32), (3 : Int32), (4 : Int32), (5 : Int32)] : List Int32) := by
  have q : x.toInt = 0 ∨ x.toInt = 1 ∨ x.toInt = 2 ∨ x.toInt = 3 ∨ x.toInt = 4 ∨ x.toInt = 5 := by omega
  rcases q with q | q | q | q | q | q
  · rw [show x = (0 : Int32) from Int32.toInt_inj.mp q]; simp
  · rw [show x = (1 : Int32) from Int32.toInt_inj.mp q]; simp
  · rw [show x = (2 : Int32) from Int32.toInt_inj.mp q]; simp
  · rw [show x = (3 : Int32) from Int32.toInt_inj.mp q]; simp
  · rw [show x = (4 : Int32) from Int32.toInt_inj.mp q]; simp
  · rw [show x = (5 : Int32) from Int32.toInt_inj.mp q]; simp
def own_cls (y : Int32) : Nat := if y = (46 : Int32) then 1 else (if y < (48 : Int32) then 0 else (if (57 : Int32) < y then 0 else 2))
def loopE (c : Int32 → Nat) (fr to_ : Int32) : Nat → Int32 → Int32 → Int32
  | 0, pt, _ => if pt < (0 : Int32) then (if fr < to_ then (1 : Int32) else (0 : Int32)) else (if fr < pt then (if pt < (to_ - (1 : Int32)) then (1 : Int32) else (0 : Int32)) else (0 : Int32))
  | k + 1, pt, i => if c i = 1 then (if pt < (0 : Int32) then loopE c fr to_ k i (i + (1 : Int32)) else (0 : Int32)) else (if c i = 0 then (0 : Int32) else loopE c fr to_ k pt (i + (1 : Int32)))
theorem own_lE (g : Int32 → Int32) (fr to_ : Int32) : ∀ k pt i, loopD g fr to_ k pt i = loopE (fun j => own_cls (g j)) fr to_ k pt i := by
  intro k
  induction k with
  | zero => intros; rfl
  | succ k ih =>
    intro pt i
    simp only [loopD, loopE]
    by_cases h : g i = (46 : Int32)
    · have h48 : g i < (48 : Int32) := by rw [h]; decide
      have hc : own_cls (g i) = 1 := by rw [own_cls, if_pos h]
      by_cases h2 : pt < (0 : Int32)
      · rw [if_pos h, if_pos h2, if_pos hc, if_pos h2, ih]
      · rw [if_pos h, if_neg h2, if_pos h48, if_pos hc, if_neg h2]
    · by_cases a : g i < (48 : Int32)
      · have hc : own_cls (g i) = 0 := by rw [own_cls, if_neg h, if_pos a]
        rw [if_neg h, if_pos a, if_neg (by rw [hc]; decide), if_pos hc]
      · by_cases b : (57 : Int32) < g i
        · have hc : own_cls (g i) = 0 := by rw [own_cls, if_neg h, if_neg a, if_pos b]
          rw [if_neg h, if_neg a, if_pos b, if_neg (by rw [hc]; decide), if_pos hc]
        · have hc : own_cls (g i) = 2 := by rw [own_cls, if_neg h, if_neg a, if_neg b]
          rw [if_neg h, if_neg a, if_neg b, if_neg (by rw [hc]; decide), if_neg (by rw [hc]; decide), ih]
def f2E (i fr to_ : Int32) (c : Nat) : Int32 := if i < fr then (0 : Int32) else (if i < to_ then (if c = 1 then (1 : Int32) else (0 : Int32)) else (0 : Int32))
def f4E (i fr to_ : Int32) (c : Nat) : Int32 := if i < fr then (0 : Int32) else (if i < to_ then (if c = 0 then (1 : Int32) else (0 : Int32)) else (0 : Int32))
theorem own_f2E (i fr to_ y : Int32) : f2 i fr to_ y = f2E i fr to_ (own_cls y) := by
  by_cases a : i < fr <;> by_cases b : i < to_ <;> by_cases c : y = (46 : Int32) <;> by_cases d : y < (48 : Int32) <;> by_cases e : (57 : Int32) < y <;> simp [f2, f3, f6, f2E, own_cls, a, b, c, d, e]
theorem own_f4E (i fr to_ y : Int32) : f4 i fr to_ y = f4E i fr to_ (own_cls y) := by
  by_cases a : i < fr <;> by_cases b : i < to_ <;> by_cases c : y = (46 : Int32) <;> by_cases d : y < (48 : Int32) <;> by_cases e : (57 : Int32) < y <;> simp [f4, f3, f6, f7, f4E, own_cls, a, b, c, d, e]
def own_rh (fr to_ pts pix bad : Int32) : Int32 := (if bad = (0 : Int32) then (if pts = (0 : Int32) then (if fr < to_ then (1 : Int32) else (0 : Int32)) else (if pts = (1 : Int32) then (if fr < pix then (if pix < (to_ - (1 : Int32)) then (1 : Int32) else (0 : Int32)) else (0 : Int32)) else (0 : Int32))) else (0 : Int32))
theorem own_bf : ∀ fr ∈ ([0, 1, 2, 3, 4, 5] : List Int32), ∀ to_ ∈ ([0, 1, 2, 3, 4, 5] : List Int32), to_ < fr ∨ ∀ c0 ∈ ([0, 1, 2] : List Nat), ∀ c1 ∈ ([0, 1, 2] : List Nat), ∀ c2 ∈ ([0, 1, 2] : List Nat), ∀ c3 ∈ ([0, 1, 2] : List Nat), ∀ c4 ∈ ([0, 1, 2] : List Nat),
    loopE (fun j => [c0, c1, c2, c3, c4].getD j.toNatClampNeg 0) fr to_ (to_.toInt - fr.toInt).toNat (-1 : Int32) fr = own_rh fr to_ ((((((f2E 0 fr to_ c0) + (f2E 1 fr to_ c1)) + (f2E 2 fr to_ c2)) + (f2E 3 fr to_ c3)) + (f2E 4 fr to_ c4))) (((((f2E 1 fr to_ c1) + ((2 : Int32) * (f2E 2 fr to_ c2))) + ((3 : Int32) * (f2E 3 fr to_ c3))) + ((4 : Int32) * (f2E 4 fr to_ c4)))) ((((((f4E 0 fr to_ c0) + (f4E 1 fr to_ c1)) + (f4E 2 fr to_ c2)) + (f4E 3 fr to_ c3)) + (f4E 4 fr to_ c4))) := by decide +kernel
theorem own_cmem (y : Int32) : own_cls y ∈ ([0, 1, 2] : List Nat) := by
  unfold own_cls; repeat' split
  all_goals simp
theorem own_fin (a0 a1 a2 a3 a4 fr to_ : Int32) (q1 : 0 ≤ fr.toInt) (q2 : fr.toInt ≤ to_.toInt) (q3 : to_.toInt ≤ 5) :
    loopD (fun j => ([a0, a1, a2, a3, a4].getD j.toNatClampNeg (0 : Int32))) fr to_ (to_.toInt - fr.toInt).toNat (-1 : Int32) fr = (if (((((f4 (0 : Int32) fr to_ a0) + (f4 (1 : Int32) fr to_ a1)) + (f4 (2 : Int32) fr to_ a2)) + (f4 (3 : Int32) fr to_ a3)) + (f4 (4 : Int32) fr to_ a4)) = (0 : Int32) then (if (((((f2 (0 : Int32) fr to_ a0) + (f2 (1 : Int32) fr to_ a1)) + (f2 (2 : Int32) fr to_ a2)) + (f2 (3 : Int32) fr to_ a3)) + (f2 (4 : Int32) fr to_ a4)) = (0 : Int32) then (if fr < to_ then (1 : Int32) else (0 : Int32)) else (if (((((f2 (0 : Int32) fr to_ a0) + (f2 (1 : Int32) fr to_ a1)) + (f2 (2 : Int32) fr to_ a2)) + (f2 (3 : Int32) fr to_ a3)) + (f2 (4 : Int32) fr to_ a4)) = (1 : Int32) then (if fr < ((((f2 (1 : Int32) fr to_ a1) + ((2 : Int32) * (f2 (2 : Int32) fr to_ a2))) + ((3 : Int32) * (f2 (3 : Int32) fr to_ a3))) + ((4 : Int32) * (f2 (4 : Int32) fr to_ a4))) then (if ((((f2 (1 : Int32) fr to_ a1) + ((2 : Int32) * (f2 (2 : Int32) fr to_ a2))) + ((3 : Int32) * (f2 (3 : Int32) fr to_ a3))) + ((4 : Int32) * (f2 (4 : Int32) fr to_ a4))) < (to_ - (1 : Int32)) then (1 : Int32) else (0 : Int32)) else (0 : Int32)) else (0 : Int32))) else (0 : Int32)) := by
  have e : (fun j : Int32 => own_cls ([a0, a1, a2, a3, a4].getD j.toNatClampNeg (0 : Int32))) = fun j => [own_cls a0, own_cls a1, own_cls a2, own_cls a3, own_cls a4].getD j.toNatClampNeg 0 :=
    funext fun j => (own_getM own_cls [a0, a1, a2, a3, a4] _ 0).symm
  rw [own_lE]
  simp only [own_f2E, own_f4E]
  rw [e]
  rcases own_bf fr (own_mem5 _ q1 (by omega)) to_ (own_mem5 _ (by omega) q3) with h | h
  · rw [Int32.lt_iff_toInt_lt] at h; omega
  · exact h _ (own_cmem a0) _ (own_cmem a1) _ (own_cmem a2) _ (own_cmem a3) _ (own_cmem a4)

set_option maxRecDepth 65536 in
set_option maxHeartbeats 40000000 in
theorem own_pre0 (i0 : Int32) (i1 : Int32) (i2 : Int32) (i3 : Int32) (i4 : Int32) (i5 : Int32) (v12 : Int32) (hv12 : v12 = ((i5 &&& (65535 : Int32)) % (6 : Int32))) : ((6 : Int32) - v12) ≠ 0 := by
  have ca_0 := c_mask i5 65535 16 (by decide) (by decide)
  have ca_1 := c_irem (i5 &&& 65535) 6 6 rfl
  have ca_2 := c_isub 6 v12
  have bl_0 := (6 - v12).le_toInt; have bu_0 := (6 - v12).toInt_lt
  have bl_1 := (v12).le_toInt; have bu_1 := (v12).toInt_lt
  try simp only [own_eqite, own_iteeq] at *
  try simp only [ne_eq, and_true, true_and, or_true, true_or, and_false, false_and, or_false, false_or, not_true_eq_false, not_false_eq_true, Int32.lt_iff_toInt_lt, Int64.lt_iff_toInt_lt, ← Int32.toInt_inj, ← Int64.toInt_inj, Int32.reduceToInt, Int64.reduceToInt] at *
  omega
set_option maxRecDepth 65536 in
set_option maxHeartbeats 40000000 in
theorem own_pre1 (i0 : Int32) (i1 : Int32) (i2 : Int32) (i3 : Int32) (i4 : Int32) (i5 : Int32) (v12 : Int32) (v13 : Int32) (v15 : Int32) (v17 : Int32) (v19 : Int32) (v21 : Int32) (v23 : Int32) (v24 : Int32) (v25 : Int32) (v31 : Int32) (u32 : Int32) (hv12 : v12 = ((i5 &&& (65535 : Int32)) % (6 : Int32))) (hv13 : v13 = (v12 + (((i5.toUInt32 >>> ((16 : Int32) &&& 31).toUInt32).toInt32) % ((6 : Int32) - v12)))) (hv15 : v15 = (f2 (0 : Int32) v12 v13 (nar .byte (f1 i0)))) (hv17 : v17 = (f2 (1 : Int32) v12 v13 (nar .byte (f1 i1)))) (hv19 : v19 = (f2 (2 : Int32) v12 v13 (nar .byte (f1 i2)))) (hv21 : v21 = (f2 (3 : Int32) v12 v13 (nar .byte (f1 i3)))) (hv23 : v23 = (f2 (4 : Int32) v12 v13 (nar .byte (f1 i4)))) (hv24 : v24 = ((((v15 + v17) + v19) + v21) + v23)) (hv25 : v25 = (((v17 + ((2 : Int32) * v19)) + ((3 : Int32) * v21)) + ((4 : Int32) * v23))) (hv31 : v31 = (((((f4 (0 : Int32) v12 v13 (nar .byte (f1 i0))) + (f4 (1 : Int32) v12 v13 (nar .byte (f1 i1)))) + (f4 (2 : Int32) v12 v13 (nar .byte (f1 i2)))) + (f4 (3 : Int32) v12 v13 (nar .byte (f1 i3)))) + (f4 (4 : Int32) v12 v13 (nar .byte (f1 i4))))) (hu32 : u32 = (if v31 = (0 : Int32) then (if v24 = (0 : Int32) then (if v12 < v13 then (1 : Int32) else (0 : Int32)) else (if v24 = (1 : Int32) then (if v12 < v25 then (if v25 < (v13 - (1 : Int32)) then (1 : Int32) else (0 : Int32)) else (0 : Int32)) else (0 : Int32))) else (0 : Int32))) : ¬ v12 < (0 : Int32) := by
  have ca_0 := c_mask i5 65535 16 (by decide) (by decide)
  have ca_1 := c_irem (i5 &&& 65535) 6 6 rfl
  have ca_2 := c_isub 6 v12
  have bl_0 := (6 - v12).le_toInt; have bu_0 := (6 - v12).toInt_lt
  have bl_1 := (v12).le_toInt; have bu_1 := (v12).toInt_lt
  try simp only [own_eqite, own_iteeq] at *
  try simp only [ne_eq, and_true, true_and, or_true, true_or, and_false, false_and, or_false, false_or, not_true_eq_false, not_false_eq_true, Int32.lt_iff_toInt_lt, Int64.lt_iff_toInt_lt, ← Int32.toInt_inj, ← Int64.toInt_inj, Int32.reduceToInt, Int64.reduceToInt] at *
  omega
set_option maxRecDepth 65536 in
set_option maxHeartbeats 40000000 in
theorem own_pre2 (i0 : Int32) (i1 : Int32) (i2 : Int32) (i3 : Int32) (i4 : Int32) (i5 : Int32) (v12 : Int32) (v13 : Int32) (v15 : Int32) (v17 : Int32) (v19 : Int32) (v21 : Int32) (v23 : Int32) (v24 : Int32) (v25 : Int32) (v31 : Int32) (u32 : Int32) (hv12 : v12 = ((i5 &&& (65535 : Int32)) % (6 : Int32))) (hv13 : v13 = (v12 + (((i5.toUInt32 >>> ((16 : Int32) &&& 31).toUInt32).toInt32) % ((6 : Int32) - v12)))) (hv15 : v15 = (f2 (0 : Int32) v12 v13 (nar .byte (f1 i0)))) (hv17 : v17 = (f2 (1 : Int32) v12 v13 (nar .byte (f1 i1)))) (hv19 : v19 = (f2 (2 : Int32) v12 v13 (nar .byte (f1 i2)))) (hv21 : v21 = (f2 (3 : Int32) v12 v13 (nar .byte (f1 i3)))) (hv23 : v23 = (f2 (4 : Int32) v12 v13 (nar .byte (f1 i4)))) (hv24 : v24 = ((((v15 + v17) + v19) + v21) + v23)) (hv25 : v25 = (((v17 + ((2 : Int32) * v19)) + ((3 : Int32) * v21)) + ((4 : Int32) * v23))) (hv31 : v31 = (((((f4 (0 : Int32) v12 v13 (nar .byte (f1 i0))) + (f4 (1 : Int32) v12 v13 (nar .byte (f1 i1)))) + (f4 (2 : Int32) v12 v13 (nar .byte (f1 i2)))) + (f4 (3 : Int32) v12 v13 (nar .byte (f1 i3)))) + (f4 (4 : Int32) v12 v13 (nar .byte (f1 i4))))) (hu32 : u32 = (if v31 = (0 : Int32) then (if v24 = (0 : Int32) then (if v12 < v13 then (1 : Int32) else (0 : Int32)) else (if v24 = (1 : Int32) then (if v12 < v25 then (if v25 < (v13 - (1 : Int32)) then (1 : Int32) else (0 : Int32)) else (0 : Int32)) else (0 : Int32))) else (0 : Int32))) : ¬ (5 : Int32) < v13 := by
  clear hu32 hv31 hv25 hv24 hv23 hv21 hv19 hv17 hv15
  have ca_0 := c_mask i5 65535 16 (by decide) (by decide)
  have ca_1 := c_irem (i5 &&& 65535) 6 6 rfl
  have ca_2 := c_isub 6 v12
  have ca_3 := c_iushr i5 16 16 (by decide) (by decide)
  have ca_4 := c_iremV ((i5.toUInt32 >>> ((16 : Int32) &&& 31).toUInt32).toInt32) (6 - v12)
  have ca_5 := c_iadd v12 (((i5.toUInt32 >>> ((16 : Int32) &&& 31).toUInt32).toInt32) % (6 - v12))
  have bl_0 := (6 - v12).le_toInt; have bu_0 := (6 - v12).toInt_lt
  have bl_1 := (v12).le_toInt; have bu_1 := (v12).toInt_lt
  have bl_2 := (v13).le_toInt; have bu_2 := (v13).toInt_lt
  try simp only [own_eqite, own_iteeq] at *
  try simp only [ne_eq, and_true, true_and, or_true, true_or, and_false, false_and, or_false, false_or, not_true_eq_false, not_false_eq_true, Int32.lt_iff_toInt_lt, Int64.lt_iff_toInt_lt, ← Int32.toInt_inj, ← Int64.toInt_inj, Int32.reduceToInt, Int64.reduceToInt] at *
  omega
set_option maxRecDepth 65536 in
set_option maxHeartbeats 40000000 in
theorem own_bad0 (i0 : Int32) (i1 : Int32) (i2 : Int32) (i3 : Int32) (i4 : Int32) (i5 : Int32) (v12 : Int32) (v13 : Int32) (v15 : Int32) (v17 : Int32) (v19 : Int32) (v21 : Int32) (v23 : Int32) (v24 : Int32) (v25 : Int32) (v31 : Int32) (u32 : Int32) (hv12 : v12 = ((i5 &&& (65535 : Int32)) % (6 : Int32))) (hv13 : v13 = (v12 + (((i5.toUInt32 >>> ((16 : Int32) &&& 31).toUInt32).toInt32) % ((6 : Int32) - v12)))) (hv15 : v15 = (f2 (0 : Int32) v12 v13 (nar .byte (f1 i0)))) (hv17 : v17 = (f2 (1 : Int32) v12 v13 (nar .byte (f1 i1)))) (hv19 : v19 = (f2 (2 : Int32) v12 v13 (nar .byte (f1 i2)))) (hv21 : v21 = (f2 (3 : Int32) v12 v13 (nar .byte (f1 i3)))) (hv23 : v23 = (f2 (4 : Int32) v12 v13 (nar .byte (f1 i4)))) (hv24 : v24 = ((((v15 + v17) + v19) + v21) + v23)) (hv25 : v25 = (((v17 + ((2 : Int32) * v19)) + ((3 : Int32) * v21)) + ((4 : Int32) * v23))) (hv31 : v31 = (((((f4 (0 : Int32) v12 v13 (nar .byte (f1 i0))) + (f4 (1 : Int32) v12 v13 (nar .byte (f1 i1)))) + (f4 (2 : Int32) v12 v13 (nar .byte (f1 i2)))) + (f4 (3 : Int32) v12 v13 (nar .byte (f1 i3)))) + (f4 (4 : Int32) v12 v13 (nar .byte (f1 i4))))) (hu32 : u32 = (if v31 = (0 : Int32) then (if v24 = (0 : Int32) then (if v12 < v13 then (1 : Int32) else (0 : Int32)) else (if v24 = (1 : Int32) then (if v12 < v25 then (if v25 < (v13 - (1 : Int32)) then (1 : Int32) else (0 : Int32)) else (0 : Int32)) else (0 : Int32))) else (0 : Int32))) (c302 : ¬ (loopD (fun j => ([(nar .byte (f1 i0)), (nar .byte (f1 i1)), (nar .byte (f1 i2)), (nar .byte (f1 i3)), (nar .byte (f1 i4))].getD j.toNatClampNeg (0 : Int32))) v12 v13 (v13.toInt - v12.toInt).toNat (-1 : Int32) v12) = u32) : False := by
  have hft : 0 ≤ v12.toInt ∧ v12.toInt ≤ v13.toInt ∧ v13.toInt ≤ 5 := by
    clear c302 hu32 hv31 hv25 hv24 hv23 hv21 hv19 hv17 hv15
    have ca_0 := c_mask i5 65535 16 (by decide) (by decide)
    have ca_1 := c_irem (i5 &&& 65535) 6 6 rfl
    have ca_2 := c_isub 6 v12
    have ca_3 := c_iushr i5 16 16 (by decide) (by decide)
    have ca_4 := c_iremV ((i5.toUInt32 >>> ((16 : Int32) &&& 31).toUInt32).toInt32) (6 - v12)
    have ca_5 := c_iadd v12 (((i5.toUInt32 >>> ((16 : Int32) &&& 31).toUInt32).toInt32) % (6 - v12))
    have bl_0 := (6 - v12).le_toInt; have bu_0 := (6 - v12).toInt_lt
    have bl_1 := (v12).le_toInt; have bu_1 := (v12).toInt_lt
    have bl_2 := (v13).le_toInt; have bu_2 := (v13).toInt_lt
    try simp only [own_eqite, own_iteeq] at *
    try simp only [ne_eq, and_true, true_and, or_true, true_or, and_false, false_and, or_false, false_or, not_true_eq_false, not_false_eq_true, Int32.lt_iff_toInt_lt, Int64.lt_iff_toInt_lt, ← Int32.toInt_inj, ← Int64.toInt_inj, Int32.reduceToInt, Int64.reduceToInt] at *
    omega
  clear hv12 hv13
  subst hu32 hv31 hv25 hv24 hv23 hv21 hv19 hv17 hv15
  exact c302 (own_fin _ _ _ _ _ v12 v13 hft.1 hft.2.1 hft.2.2)
theorem pn0 : plainName "com/example/exdate/exdate/ValuesIsDecimalPinLaw" = true := by first | (simp [plainName, overriddenIn]; done) | decide +kernel
theorem ef0 (m : MethodId) (i0 : Int32) (i1 : Int32) (i2 : Int32) (i3 : Int32) (i4 : Int32) (i5 : Int32) : entryFrame m #[(.int i0), (.int i1), (.int i2), (.int i3), (.int i4), (.int i5)] maxLocals = mkF m 0 #[.val (.int i0), .val (.int i1), .val (.int i2), .val (.int i3), .val (.int i4), .val (.int i5), .unset, .unset, .unset, .unset, .unset, .unset, .unset, .unset, .unset, .unset, .unset, .unset] [] := by first | (simp [entryFrame, mkF, argsToLocals, Value.category, maxLocals]; done) | rfl
set_option maxRecDepth 65536 in
set_option maxHeartbeats 40000000 in
theorem rm0 (l : Launch) (Z : State) (a0 : Array Value) (hw : ∀ d ∈ tables_1, d.before a0 Z = true) (i0 : Int32) (i1 : Int32) (i2 : Int32) (i3 : Int32) (i4 : Int32) (i5 : Int32) (h0 : Heap) (n0 : Nat) (Z0 : n0 ≤ h0.size) :
    Ctr l Z x code maxLocals ret room_1 #[(.int i0), (.int i1), (.int i2), (.int i3), (.int i4), (.int i5)] h0 n0 (fun v _ => v = some (.int (1 : Int32))) := by
  refine Ctr.body (L := #[.val (.int i0), .val (.int i1), .val (.int i2), .val (.int i3), .val (.int i4), .val (.int i5), .unset, .unset, .unset, .unset, .unset, .unset, .unset, .unset, .unset, .unset, .unset, .unset]) (plainFor_of_name pn0) Z0 (fun m => ef0 m i0 i1 i2 i3 i4 i5) ?_
  intro p e F m below meth c T0 C0
  refine C0.iconst (5 : Int32) at_0 rfl rfl ?_
  refine C0.newarr (hw _ (List.mem_of_getElem? (i := 0) rfl)) 5 (by decide) (by decide) (by decide) (by decide) (by decide) at_1 rfl (fun T1 h1 b1 k1 C1 e1 g_b1 E1 V_b1 => ?_)
  have V_b1 : Arv Z h1 b1 k1 .byte (5 : Int32) [(.int (0 : Int32)), (.int (0 : Int32)), (.int (0 : Int32)), (.int (0 : Int32)), (.int (0 : Int32))] (.int (0 : Int32)) := V_b1
  refine C1.astore at_3 rfl rfl (L' := #[.val (.int i0), .val (.int i1), .val (.int i2), .val (.int i3), .val (.int i4), .val (.int i5), .val (.ref b1), .unset, .unset, .unset, .unset, .unset, .unset, .unset, .unset, .unset, .unset, .unset]) rfl ?_
  refine C1.aload at_5 rfl rfl rfl ?_
  refine C1.iconst (0 : Int32) at_7 rfl rfl ?_
  refine C1.iloadN at_8 rfl rfl ?_
  refine C1.callS (hw _ (List.mem_of_getElem? (i := 1) rfl)) (hw _ (List.mem_of_getElem? (i := 2) rfl)) (hw _ (List.mem_of_getElem? (i := 3) rfl)) (hw _ (List.mem_of_getElem? (i := 4) rfl)) (by decide) (rm1 l Z a0 hw i0 h1 n0 C1.size ) (argsL := [(.int i0)]) pd1 rfl 2 (by decide) (by decide) (by decide) (by decide) (rest := [(.int (0 : Int32)), (.ref b1)]) rfl rfl (Nat.le_of_eq rfl) at_9 rfl (fun v2 T2 h2 C2 qq2 => ?_)
  obtain ⟨rfl, hh2⟩ := qq2
  have hh2 := hh2.symm; subst hh2
  show Go p e below F n0 (fun v _ => v = some (.int (1 : Int32))) T2 (mkF m 12 #[.val (.int i0), .val (.int i1), .val (.int i2), .val (.int i3), .val (.int i4), .val (.int i5), .val (.ref b1), .unset, .unset, .unset, .unset, .unset, .unset, .unset, .unset, .unset, .unset, .unset] [(.int (f1 i0)), (.int (0 : Int32)), (.ref b1)])
  refine C2.bastore V_b1 ⟨by decide, by decide⟩ (Nat.le_of_ble_eq_true rfl) g_b1 at_12 rfl (fun T3 h3 C3 W3 Vn3 => ?_)
  have V_b1 : Arv Z h3 b1 k1 .byte (5 : Int32) [(.int (nar .byte (f1 i0))), (.int (0 : Int32)), (.int (0 : Int32)), (.int (0 : Int32)), (.int (0 : Int32))] (.int (0 : Int32)) := Vn3
  refine C3.aload at_13 rfl rfl rfl ?_
  refine C3.iconst (1 : Int32) at_15 rfl rfl ?_
  refine C3.iloadN at_16 rfl rfl ?_
  refine C3.callS (hw _ (List.mem_of_getElem? (i := 1) rfl)) (hw _ (List.mem_of_getElem? (i := 2) rfl)) (hw _ (List.mem_of_getElem? (i := 3) rfl)) (hw _ (List.mem_of_getElem? (i := 4) rfl)) (by decide) (rm1 l Z a0 hw i1 h3 n0 C3.size ) (argsL := [(.int i1)]) pd1 rfl 2 (by decide) (by decide) (by decide) (by decide) (rest := [(.int (1 : Int32)), (.ref b1)]) rfl rfl (Nat.le_of_eq rfl) at_17 rfl (fun v4 T4 h4 C4 qq4 => ?_)
  obtain ⟨rfl, hh4⟩ := qq4
  have hh4 := hh4.symm; subst hh4
  show Go p e below F n0 (fun v _ => v = some (.int (1 : Int32))) T4 (mkF m 20 #[.val (.int i0), .val (.int i1), .val (.int i2), .val (.int i3), .val (.int i4), .val (.int i5), .val (.ref b1), .unset, .unset, .unset, .unset, .unset, .unset, .unset, .unset, .unset, .unset, .unset] [(.int (f1 i1)), (.int (1 : Int32)), (.ref b1)])
  refine C4.bastore V_b1 ⟨by decide, by decide⟩ (Nat.le_of_ble_eq_true rfl) g_b1 at_20 rfl (fun T5 h5 C5 W5 Vn5 => ?_)
  have V_b1 : Arv Z h5 b1 k1 .byte (5 : Int32) [(.int (nar .byte (f1 i0))), (.int (nar .byte (f1 i1))), (.int (0 : Int32)), (.int (0 : Int32)), (.int (0 : Int32))] (.int (0 : Int32)) := Vn5
  refine C5.aload at_21 rfl rfl rfl ?_
  refine C5.iconst (2 : Int32) at_23 rfl rfl ?_
  refine C5.iloadN at_24 rfl rfl ?_
  refine C5.callS (hw _ (List.mem_of_getElem? (i := 1) rfl)) (hw _ (List.mem_of_getElem? (i := 2) rfl)) (hw _ (List.mem_of_getElem? (i := 3) rfl)) (hw _ (List.mem_of_getElem? (i := 4) rfl)) (by decide) (rm1 l Z a0 hw i2 h5 n0 C5.size ) (argsL := [(.int i2)]) pd1 rfl 2 (by decide) (by decide) (by decide) (by decide) (rest := [(.int (2 : Int32)), (.ref b1)]) rfl rfl (Nat.le_of_eq rfl) at_25 rfl (fun v6 T6 h6 C6 qq6 => ?_)
  obtain ⟨rfl, hh6⟩ := qq6
  have hh6 := hh6.symm; subst hh6
  show Go p e below F n0 (fun v _ => v = some (.int (1 : Int32))) T6 (mkF m 28 #[.val (.int i0), .val (.int i1), .val (.int i2), .val (.int i3), .val (.int i4), .val (.int i5), .val (.ref b1), .unset, .unset, .unset, .unset, .unset, .unset, .unset, .unset, .unset, .unset, .unset] [(.int (f1 i2)), (.int (2 : Int32)), (.ref b1)])
  refine C6.bastore V_b1 ⟨by decide, by decide⟩ (Nat.le_of_ble_eq_true rfl) g_b1 at_28 rfl (fun T7 h7 C7 W7 Vn7 => ?_)
  have V_b1 : Arv Z h7 b1 k1 .byte (5 : Int32) [(.int (nar .byte (f1 i0))), (.int (nar .byte (f1 i1))), (.int (nar .byte (f1 i2))), (.int (0 : Int32)), (.int (0 : Int32))] (.int (0 : Int32)) := Vn7
  refine C7.aload at_29 rfl rfl rfl ?_
  refine C7.iconst (3 : Int32) at_31 rfl rfl ?_
  refine C7.iloadN at_32 rfl rfl ?_
  refine C7.callS (hw _ (List.mem_of_getElem? (i := 1) rfl)) (hw _ (List.mem_of_getElem? (i := 2) rfl)) (hw _ (List.mem_of_getElem? (i := 3) rfl)) (hw _ (List.mem_of_getElem? (i := 4) rfl)) (by decide) (rm1 l Z a0 hw i3 h7 n0 C7.size ) (argsL := [(.int i3)]) pd1 rfl 2 (by decide) (by decide) (by decide) (by decide) (rest := [(.int (3 : Int32)), (.ref b1)]) rfl rfl (Nat.le_of_eq rfl) at_33 rfl (fun v8 T8 h8 C8 qq8 => ?_)
  obtain ⟨rfl, hh8⟩ := qq8
  have hh8 := hh8.symm; subst hh8
  show Go p e below F n0 (fun v _ => v = some (.int (1 : Int32))) T8 (mkF m 36 #[.val (.int i0), .val (.int i1), .val (.int i2), .val (.int i3), .val (.int i4), .val (.int i5), .val (.ref b1), .unset, .unset, .unset, .unset, .unset, .unset, .unset, .unset, .unset, .unset, .unset] [(.int (f1 i3)), (.int (3 : Int32)), (.ref b1)])
  refine C8.bastore V_b1 ⟨by decide, by decide⟩ (Nat.le_of_ble_eq_true rfl) g_b1 at_36 rfl (fun T9 h9 C9 W9 Vn9 => ?_)
  have V_b1 : Arv Z h9 b1 k1 .byte (5 : Int32) [(.int (nar .byte (f1 i0))), (.int (nar .byte (f1 i1))), (.int (nar .byte (f1 i2))), (.int (nar .byte (f1 i3))), (.int (0 : Int32))] (.int (0 : Int32)) := Vn9
  refine C9.aload at_37 rfl rfl rfl ?_
  refine C9.iconst (4 : Int32) at_39 rfl rfl ?_
  refine C9.iload at_40 rfl rfl ?_
  refine C9.callS (hw _ (List.mem_of_getElem? (i := 1) rfl)) (hw _ (List.mem_of_getElem? (i := 2) rfl)) (hw _ (List.mem_of_getElem? (i := 3) rfl)) (hw _ (List.mem_of_getElem? (i := 4) rfl)) (by decide) (rm1 l Z a0 hw i4 h9 n0 C9.size ) (argsL := [(.int i4)]) pd1 rfl 2 (by decide) (by decide) (by decide) (by decide) (rest := [(.int (4 : Int32)), (.ref b1)]) rfl rfl (Nat.le_of_eq rfl) at_42 rfl (fun v10 T10 h10 C10 qq10 => ?_)
  obtain ⟨rfl, hh10⟩ := qq10
  have hh10 := hh10.symm; subst hh10
  show Go p e below F n0 (fun v _ => v = some (.int (1 : Int32))) T10 (mkF m 45 #[.val (.int i0), .val (.int i1), .val (.int i2), .val (.int i3), .val (.int i4), .val (.int i5), .val (.ref b1), .unset, .unset, .unset, .unset, .unset, .unset, .unset, .unset, .unset, .unset, .unset] [(.int (f1 i4)), (.int (4 : Int32)), (.ref b1)])
  refine C10.bastore V_b1 ⟨by decide, by decide⟩ (Nat.le_of_ble_eq_true rfl) g_b1 at_45 rfl (fun T11 h11 C11 W11 Vn11 => ?_)
  have V_b1 : Arv Z h11 b1 k1 .byte (5 : Int32) [(.int (nar .byte (f1 i0))), (.int (nar .byte (f1 i1))), (.int (nar .byte (f1 i2))), (.int (nar .byte (f1 i3))), (.int (nar .byte (f1 i4)))] (.int (0 : Int32)) := Vn11
  refine C11.iload at_46 rfl rfl ?_
  refine C11.ldc (hw _ (List.mem_of_getElem? (i := 5) rfl)) at_48 rfl ?_
  refine C11.iand at_50 rfl ?_
  refine C11.bipush (6 : Int32) at_51 rfl rfl ?_
  refine C11.irem at_53 rfl (by decide) ?_
  refine C11.istoreV (fun v => #[.val (.int i0), .val (.int i1), .val (.int i2), .val (.int i3), .val (.int i4), .val (.int i5), .val (.ref b1), .val (.int v), .unset, .unset, .unset, .unset, .unset, .unset, .unset, .unset, .unset, .unset]) at_54 rfl (fun _ => rfl) (fun v12 hv12 => ?_)
  refine C11.iload at_56 rfl rfl ?_
  refine C11.iload at_58 rfl rfl ?_
  refine C11.bipush (16 : Int32) at_60 rfl rfl ?_
  refine C11.iushr at_62 rfl ?_
  refine C11.bipush (6 : Int32) at_63 rfl rfl ?_
  refine C11.iload at_65 rfl rfl ?_
  refine C11.isub at_67 rfl ?_
  refine C11.irem at_68 rfl (own_pre0 i0 i1 i2 i3 i4 i5 v12 hv12) ?_
  refine C11.iadd at_69 rfl ?_
  refine C11.istoreV (fun v => #[.val (.int i0), .val (.int i1), .val (.int i2), .val (.int i3), .val (.int i4), .val (.int i5), .val (.ref b1), .val (.int v12), .val (.int v), .unset, .unset, .unset, .unset, .unset, .unset, .unset, .unset, .unset]) at_70 rfl (fun _ => rfl) (fun v13 hv13 => ?_)
  refine C11.aload at_72 rfl rfl rfl ?_
  refine C11.iconst (0 : Int32) at_74 rfl rfl ?_
  refine C11.iload at_75 rfl rfl ?_
  refine C11.iload at_77 rfl rfl ?_
  refine C11.callS (hw _ (List.mem_of_getElem? (i := 6) rfl)) (hw _ (List.mem_of_getElem? (i := 7) rfl)) (hw _ (List.mem_of_getElem? (i := 3) rfl)) (hw _ (List.mem_of_getElem? (i := 8) rfl)) (by decide) (rm2 l Z a0 hw b1 (0 : Int32) v12 v13 k1 (5 : Int32) [(.int (nar .byte (f1 i0))), (.int (nar .byte (f1 i1))), (.int (nar .byte (f1 i2))), (.int (nar .byte (f1 i3))), (.int (nar .byte (f1 i4)))] (.int (0 : Int32)) (nar .byte (f1 i0)) h11 n0 C11.size V_b1 ⟨by decide, by decide⟩ rfl) (argsL := [(.ref b1), (.int (0 : Int32)), (.int v12), (.int v13)]) pd2 rfl 0 (by decide) (by decide) (by decide) (by decide) (rest := []) rfl rfl (Nat.le_of_eq rfl) at_79 rfl (fun v14 T14 h14 C14 qq14 => ?_)
  obtain ⟨rfl, hh14⟩ := qq14
  have hh14 := hh14.symm; subst hh14
  show Go p e below F n0 (fun v _ => v = some (.int (1 : Int32))) T14 (mkF m 82 #[.val (.int i0), .val (.int i1), .val (.int i2), .val (.int i3), .val (.int i4), .val (.int i5), .val (.ref b1), .val (.int v12), .val (.int v13), .unset, .unset, .unset, .unset, .unset, .unset, .unset, .unset, .unset] [(.int (f2 (0 : Int32) v12 v13 (nar .byte (f1 i0))))])
  refine C14.istoreV (fun v => #[.val (.int i0), .val (.int i1), .val (.int i2), .val (.int i3), .val (.int i4), .val (.int i5), .val (.ref b1), .val (.int v12), .val (.int v13), .val (.int v), .unset, .unset, .unset, .unset, .unset, .unset, .unset, .unset]) at_82 rfl (fun _ => rfl) (fun v15 hv15 => ?_)
  refine C14.aload at_84 rfl rfl rfl ?_
  refine C14.iconst (1 : Int32) at_86 rfl rfl ?_
  refine C14.iload at_87 rfl rfl ?_
  refine C14.iload at_89 rfl rfl ?_
  refine C14.callS (hw _ (List.mem_of_getElem? (i := 6) rfl)) (hw _ (List.mem_of_getElem? (i := 7) rfl)) (hw _ (List.mem_of_getElem? (i := 3) rfl)) (hw _ (List.mem_of_getElem? (i := 8) rfl)) (by decide) (rm2 l Z a0 hw b1 (1 : Int32) v12 v13 k1 (5 : Int32) [(.int (nar .byte (f1 i0))), (.int (nar .byte (f1 i1))), (.int (nar .byte (f1 i2))), (.int (nar .byte (f1 i3))), (.int (nar .byte (f1 i4)))] (.int (0 : Int32)) (nar .byte (f1 i1)) h11 n0 C14.size V_b1 ⟨by decide, by decide⟩ rfl) (argsL := [(.ref b1), (.int (1 : Int32)), (.int v12), (.int v13)]) pd2 rfl 0 (by decide) (by decide) (by decide) (by decide) (rest := []) rfl rfl (Nat.le_of_eq rfl) at_91 rfl (fun v16 T16 h16 C16 qq16 => ?_)
  obtain ⟨rfl, hh16⟩ := qq16
  have hh16 := hh16.symm; subst hh16
  show Go p e below F n0 (fun v _ => v = some (.int (1 : Int32))) T16 (mkF m 94 #[.val (.int i0), .val (.int i1), .val (.int i2), .val (.int i3), .val (.int i4), .val (.int i5), .val (.ref b1), .val (.int v12), .val (.int v13), .val (.int v15), .unset, .unset, .unset, .unset, .unset, .unset, .unset, .unset] [(.int (f2 (1 : Int32) v12 v13 (nar .byte (f1 i1))))])
  refine C16.istoreV (fun v => #[.val (.int i0), .val (.int i1), .val (.int i2), .val (.int i3), .val (.int i4), .val (.int i5), .val (.ref b1), .val (.int v12), .val (.int v13), .val (.int v15), .val (.int v), .unset, .unset, .unset, .unset, .unset, .unset, .unset]) at_94 rfl (fun _ => rfl) (fun v17 hv17 => ?_)
  refine C16.aload at_96 rfl rfl rfl ?_
  refine C16.iconst (2 : Int32) at_98 rfl rfl ?_
  refine C16.iload at_99 rfl rfl ?_
  refine C16.iload at_101 rfl rfl ?_
  refine C16.callS (hw _ (List.mem_of_getElem? (i := 6) rfl)) (hw _ (List.mem_of_getElem? (i := 7) rfl)) (hw _ (List.mem_of_getElem? (i := 3) rfl)) (hw _ (List.mem_of_getElem? (i := 8) rfl)) (by decide) (rm2 l Z a0 hw b1 (2 : Int32) v12 v13 k1 (5 : Int32) [(.int (nar .byte (f1 i0))), (.int (nar .byte (f1 i1))), (.int (nar .byte (f1 i2))), (.int (nar .byte (f1 i3))), (.int (nar .byte (f1 i4)))] (.int (0 : Int32)) (nar .byte (f1 i2)) h11 n0 C16.size V_b1 ⟨by decide, by decide⟩ rfl) (argsL := [(.ref b1), (.int (2 : Int32)), (.int v12), (.int v13)]) pd2 rfl 0 (by decide) (by decide) (by decide) (by decide) (rest := []) rfl rfl (Nat.le_of_eq rfl) at_103 rfl (fun v18 T18 h18 C18 qq18 => ?_)
  obtain ⟨rfl, hh18⟩ := qq18
  have hh18 := hh18.symm; subst hh18
  show Go p e below F n0 (fun v _ => v = some (.int (1 : Int32))) T18 (mkF m 106 #[.val (.int i0), .val (.int i1), .val (.int i2), .val (.int i3), .val (.int i4), .val (.int i5), .val (.ref b1), .val (.int v12), .val (.int v13), .val (.int v15), .val (.int v17), .unset, .unset, .unset, .unset, .unset, .unset, .unset] [(.int (f2 (2 : Int32) v12 v13 (nar .byte (f1 i2))))])
  refine C18.istoreV (fun v => #[.val (.int i0), .val (.int i1), .val (.int i2), .val (.int i3), .val (.int i4), .val (.int i5), .val (.ref b1), .val (.int v12), .val (.int v13), .val (.int v15), .val (.int v17), .val (.int v), .unset, .unset, .unset, .unset, .unset, .unset]) at_106 rfl (fun _ => rfl) (fun v19 hv19 => ?_)
  refine C18.aload at_108 rfl rfl rfl ?_
  refine C18.iconst (3 : Int32) at_110 rfl rfl ?_
  refine C18.iload at_111 rfl rfl ?_
  refine C18.iload at_113 rfl rfl ?_
  refine C18.callS (hw _ (List.mem_of_getElem? (i := 6) rfl)) (hw _ (List.mem_of_getElem? (i := 7) rfl)) (hw _ (List.mem_of_getElem? (i := 3) rfl)) (hw _ (List.mem_of_getElem? (i := 8) rfl)) (by decide) (rm2 l Z a0 hw b1 (3 : Int32) v12 v13 k1 (5 : Int32) [(.int (nar .byte (f1 i0))), (.int (nar .byte (f1 i1))), (.int (nar .byte (f1 i2))), (.int (nar .byte (f1 i3))), (.int (nar .byte (f1 i4)))] (.int (0 : Int32)) (nar .byte (f1 i3)) h11 n0 C18.size V_b1 ⟨by decide, by decide⟩ rfl) (argsL := [(.ref b1), (.int (3 : Int32)), (.int v12), (.int v13)]) pd2 rfl 0 (by decide) (by decide) (by decide) (by decide) (rest := []) rfl rfl (Nat.le_of_eq rfl) at_115 rfl (fun v20 T20 h20 C20 qq20 => ?_)
  obtain ⟨rfl, hh20⟩ := qq20
  have hh20 := hh20.symm; subst hh20
  show Go p e below F n0 (fun v _ => v = some (.int (1 : Int32))) T20 (mkF m 118 #[.val (.int i0), .val (.int i1), .val (.int i2), .val (.int i3), .val (.int i4), .val (.int i5), .val (.ref b1), .val (.int v12), .val (.int v13), .val (.int v15), .val (.int v17), .val (.int v19), .unset, .unset, .unset, .unset, .unset, .unset] [(.int (f2 (3 : Int32) v12 v13 (nar .byte (f1 i3))))])
  refine C20.istoreV (fun v => #[.val (.int i0), .val (.int i1), .val (.int i2), .val (.int i3), .val (.int i4), .val (.int i5), .val (.ref b1), .val (.int v12), .val (.int v13), .val (.int v15), .val (.int v17), .val (.int v19), .val (.int v), .unset, .unset, .unset, .unset, .unset]) at_118 rfl (fun _ => rfl) (fun v21 hv21 => ?_)
  refine C20.aload at_120 rfl rfl rfl ?_
  refine C20.iconst (4 : Int32) at_122 rfl rfl ?_
  refine C20.iload at_123 rfl rfl ?_
  refine C20.iload at_125 rfl rfl ?_
  refine C20.callS (hw _ (List.mem_of_getElem? (i := 6) rfl)) (hw _ (List.mem_of_getElem? (i := 7) rfl)) (hw _ (List.mem_of_getElem? (i := 3) rfl)) (hw _ (List.mem_of_getElem? (i := 8) rfl)) (by decide) (rm2 l Z a0 hw b1 (4 : Int32) v12 v13 k1 (5 : Int32) [(.int (nar .byte (f1 i0))), (.int (nar .byte (f1 i1))), (.int (nar .byte (f1 i2))), (.int (nar .byte (f1 i3))), (.int (nar .byte (f1 i4)))] (.int (0 : Int32)) (nar .byte (f1 i4)) h11 n0 C20.size V_b1 ⟨by decide, by decide⟩ rfl) (argsL := [(.ref b1), (.int (4 : Int32)), (.int v12), (.int v13)]) pd2 rfl 0 (by decide) (by decide) (by decide) (by decide) (rest := []) rfl rfl (Nat.le_of_eq rfl) at_127 rfl (fun v22 T22 h22 C22 qq22 => ?_)
  obtain ⟨rfl, hh22⟩ := qq22
  have hh22 := hh22.symm; subst hh22
  show Go p e below F n0 (fun v _ => v = some (.int (1 : Int32))) T22 (mkF m 130 #[.val (.int i0), .val (.int i1), .val (.int i2), .val (.int i3), .val (.int i4), .val (.int i5), .val (.ref b1), .val (.int v12), .val (.int v13), .val (.int v15), .val (.int v17), .val (.int v19), .val (.int v21), .unset, .unset, .unset, .unset, .unset] [(.int (f2 (4 : Int32) v12 v13 (nar .byte (f1 i4))))])
  refine C22.istoreV (fun v => #[.val (.int i0), .val (.int i1), .val (.int i2), .val (.int i3), .val (.int i4), .val (.int i5), .val (.ref b1), .val (.int v12), .val (.int v13), .val (.int v15), .val (.int v17), .val (.int v19), .val (.int v21), .val (.int v), .unset, .unset, .unset, .unset]) at_130 rfl (fun _ => rfl) (fun v23 hv23 => ?_)
  refine C22.iload at_132 rfl rfl ?_
  refine C22.iload at_134 rfl rfl ?_
  refine C22.iadd at_136 rfl ?_
  refine C22.iload at_137 rfl rfl ?_
  refine C22.iadd at_139 rfl ?_
  refine C22.iload at_140 rfl rfl ?_
  refine C22.iadd at_142 rfl ?_
  refine C22.iload at_143 rfl rfl ?_
  refine C22.iadd at_145 rfl ?_
  refine C22.istoreV (fun v => #[.val (.int i0), .val (.int i1), .val (.int i2), .val (.int i3), .val (.int i4), .val (.int i5), .val (.ref b1), .val (.int v12), .val (.int v13), .val (.int v15), .val (.int v17), .val (.int v19), .val (.int v21), .val (.int v23), .val (.int v), .unset, .unset, .unset]) at_146 rfl (fun _ => rfl) (fun v24 hv24 => ?_)
  refine C22.iload at_148 rfl rfl ?_
  refine C22.iconst (2 : Int32) at_150 rfl rfl ?_
  refine C22.iload at_151 rfl rfl ?_
  refine C22.imul at_153 rfl ?_
  refine C22.iadd at_154 rfl ?_
  refine C22.iconst (3 : Int32) at_155 rfl rfl ?_
  refine C22.iload at_156 rfl rfl ?_
  refine C22.imul at_158 rfl ?_
  refine C22.iadd at_159 rfl ?_
  refine C22.iconst (4 : Int32) at_160 rfl rfl ?_
  refine C22.iload at_161 rfl rfl ?_
  refine C22.imul at_163 rfl ?_
  refine C22.iadd at_164 rfl ?_
  refine C22.istoreV (fun v => #[.val (.int i0), .val (.int i1), .val (.int i2), .val (.int i3), .val (.int i4), .val (.int i5), .val (.ref b1), .val (.int v12), .val (.int v13), .val (.int v15), .val (.int v17), .val (.int v19), .val (.int v21), .val (.int v23), .val (.int v24), .val (.int v), .unset, .unset]) at_165 rfl (fun _ => rfl) (fun v25 hv25 => ?_)
  refine C22.aload at_167 rfl rfl rfl ?_
  refine C22.iconst (0 : Int32) at_169 rfl rfl ?_
  refine C22.iload at_170 rfl rfl ?_
  refine C22.iload at_172 rfl rfl ?_
  refine C22.callS (hw _ (List.mem_of_getElem? (i := 12) rfl)) (hw _ (List.mem_of_getElem? (i := 13) rfl)) (hw _ (List.mem_of_getElem? (i := 3) rfl)) (hw _ (List.mem_of_getElem? (i := 14) rfl)) (by decide) (rm4 l Z a0 hw b1 (0 : Int32) v12 v13 k1 (5 : Int32) [(.int (nar .byte (f1 i0))), (.int (nar .byte (f1 i1))), (.int (nar .byte (f1 i2))), (.int (nar .byte (f1 i3))), (.int (nar .byte (f1 i4)))] (.int (0 : Int32)) (nar .byte (f1 i0)) h11 n0 C22.size V_b1 ⟨by decide, by decide⟩ rfl) (argsL := [(.ref b1), (.int (0 : Int32)), (.int v12), (.int v13)]) pd4 rfl 0 (by decide) (by decide) (by decide) (by decide) (rest := []) rfl rfl (Nat.le_of_eq rfl) at_174 rfl (fun v26 T26 h26 C26 qq26 => ?_)
  obtain ⟨rfl, hh26⟩ := qq26
  have hh26 := hh26.symm; subst hh26
  show Go p e below F n0 (fun v _ => v = some (.int (1 : Int32))) T26 (mkF m 177 #[.val (.int i0), .val (.int i1), .val (.int i2), .val (.int i3), .val (.int i4), .val (.int i5), .val (.ref b1), .val (.int v12), .val (.int v13), .val (.int v15), .val (.int v17), .val (.int v19), .val (.int v21), .val (.int v23), .val (.int v24), .val (.int v25), .unset, .unset] [(.int (f4 (0 : Int32) v12 v13 (nar .byte (f1 i0))))])
  refine C26.aload at_177 rfl rfl rfl ?_
  refine C26.iconst (1 : Int32) at_179 rfl rfl ?_
  refine C26.iload at_180 rfl rfl ?_
  refine C26.iload at_182 rfl rfl ?_
  refine C26.callS (hw _ (List.mem_of_getElem? (i := 12) rfl)) (hw _ (List.mem_of_getElem? (i := 13) rfl)) (hw _ (List.mem_of_getElem? (i := 3) rfl)) (hw _ (List.mem_of_getElem? (i := 14) rfl)) (by decide) (rm4 l Z a0 hw b1 (1 : Int32) v12 v13 k1 (5 : Int32) [(.int (nar .byte (f1 i0))), (.int (nar .byte (f1 i1))), (.int (nar .byte (f1 i2))), (.int (nar .byte (f1 i3))), (.int (nar .byte (f1 i4)))] (.int (0 : Int32)) (nar .byte (f1 i1)) h11 n0 C26.size V_b1 ⟨by decide, by decide⟩ rfl) (argsL := [(.ref b1), (.int (1 : Int32)), (.int v12), (.int v13)]) pd4 rfl 1 (by decide) (by decide) (by decide) (by decide) (rest := [(.int (f4 (0 : Int32) v12 v13 (nar .byte (f1 i0))))]) rfl rfl (Nat.le_of_eq rfl) at_184 rfl (fun v27 T27 h27 C27 qq27 => ?_)
  obtain ⟨rfl, hh27⟩ := qq27
  have hh27 := hh27.symm; subst hh27
  show Go p e below F n0 (fun v _ => v = some (.int (1 : Int32))) T27 (mkF m 187 #[.val (.int i0), .val (.int i1), .val (.int i2), .val (.int i3), .val (.int i4), .val (.int i5), .val (.ref b1), .val (.int v12), .val (.int v13), .val (.int v15), .val (.int v17), .val (.int v19), .val (.int v21), .val (.int v23), .val (.int v24), .val (.int v25), .unset, .unset] [(.int (f4 (1 : Int32) v12 v13 (nar .byte (f1 i1)))), (.int (f4 (0 : Int32) v12 v13 (nar .byte (f1 i0))))])
  refine C27.iadd at_187 rfl ?_
  refine C27.aload at_188 rfl rfl rfl ?_
  refine C27.iconst (2 : Int32) at_190 rfl rfl ?_
  refine C27.iload at_191 rfl rfl ?_
  refine C27.iload at_193 rfl rfl ?_
  refine C27.callS (hw _ (List.mem_of_getElem? (i := 12) rfl)) (hw _ (List.mem_of_getElem? (i := 13) rfl)) (hw _ (List.mem_of_getElem? (i := 3) rfl)) (hw _ (List.mem_of_getElem? (i := 14) rfl)) (by decide) (rm4 l Z a0 hw b1 (2 : Int32) v12 v13 k1 (5 : Int32) [(.int (nar .byte (f1 i0))), (.int (nar .byte (f1 i1))), (.int (nar .byte (f1 i2))), (.int (nar .byte (f1 i3))), (.int (nar .byte (f1 i4)))] (.int (0 : Int32)) (nar .byte (f1 i2)) h11 n0 C27.size V_b1 ⟨by decide, by decide⟩ rfl) (argsL := [(.ref b1), (.int (2 : Int32)), (.int v12), (.int v13)]) pd4 rfl 1 (by decide) (by decide) (by decide) (by decide) (rest := [(.int ((f4 (0 : Int32) v12 v13 (nar .byte (f1 i0))) + (f4 (1 : Int32) v12 v13 (nar .byte (f1 i1)))))]) rfl rfl (Nat.le_of_eq rfl) at_195 rfl (fun v28 T28 h28 C28 qq28 => ?_)
  obtain ⟨rfl, hh28⟩ := qq28
  have hh28 := hh28.symm; subst hh28
  show Go p e below F n0 (fun v _ => v = some (.int (1 : Int32))) T28 (mkF m 198 #[.val (.int i0), .val (.int i1), .val (.int i2), .val (.int i3), .val (.int i4), .val (.int i5), .val (.ref b1), .val (.int v12), .val (.int v13), .val (.int v15), .val (.int v17), .val (.int v19), .val (.int v21), .val (.int v23), .val (.int v24), .val (.int v25), .unset, .unset] [(.int (f4 (2 : Int32) v12 v13 (nar .byte (f1 i2)))), (.int ((f4 (0 : Int32) v12 v13 (nar .byte (f1 i0))) + (f4 (1 : Int32) v12 v13 (nar .byte (f1 i1)))))])
  refine C28.iadd at_198 rfl ?_
  refine C28.aload at_199 rfl rfl rfl ?_
  refine C28.iconst (3 : Int32) at_201 rfl rfl ?_
  refine C28.iload at_202 rfl rfl ?_
  refine C28.iload at_204 rfl rfl ?_
  refine C28.callS (hw _ (List.mem_of_getElem? (i := 12) rfl)) (hw _ (List.mem_of_getElem? (i := 13) rfl)) (hw _ (List.mem_of_getElem? (i := 3) rfl)) (hw _ (List.mem_of_getElem? (i := 14) rfl)) (by decide) (rm4 l Z a0 hw b1 (3 : Int32) v12 v13 k1 (5 : Int32) [(.int (nar .byte (f1 i0))), (.int (nar .byte (f1 i1))), (.int (nar .byte (f1 i2))), (.int (nar .byte (f1 i3))), (.int (nar .byte (f1 i4)))] (.int (0 : Int32)) (nar .byte (f1 i3)) h11 n0 C28.size V_b1 ⟨by decide, by decide⟩ rfl) (argsL := [(.ref b1), (.int (3 : Int32)), (.int v12), (.int v13)]) pd4 rfl 1 (by decide) (by decide) (by decide) (by decide) (rest := [(.int (((f4 (0 : Int32) v12 v13 (nar .byte (f1 i0))) + (f4 (1 : Int32) v12 v13 (nar .byte (f1 i1)))) + (f4 (2 : Int32) v12 v13 (nar .byte (f1 i2)))))]) rfl rfl (Nat.le_of_eq rfl) at_206 rfl (fun v29 T29 h29 C29 qq29 => ?_)
  obtain ⟨rfl, hh29⟩ := qq29
  have hh29 := hh29.symm; subst hh29
  show Go p e below F n0 (fun v _ => v = some (.int (1 : Int32))) T29 (mkF m 209 #[.val (.int i0), .val (.int i1), .val (.int i2), .val (.int i3), .val (.int i4), .val (.int i5), .val (.ref b1), .val (.int v12), .val (.int v13), .val (.int v15), .val (.int v17), .val (.int v19), .val (.int v21), .val (.int v23), .val (.int v24), .val (.int v25), .unset, .unset] [(.int (f4 (3 : Int32) v12 v13 (nar .byte (f1 i3)))), (.int (((f4 (0 : Int32) v12 v13 (nar .byte (f1 i0))) + (f4 (1 : Int32) v12 v13 (nar .byte (f1 i1)))) + (f4 (2 : Int32) v12 v13 (nar .byte (f1 i2)))))])
  refine C29.iadd at_209 rfl ?_
  refine C29.aload at_210 rfl rfl rfl ?_
  refine C29.iconst (4 : Int32) at_212 rfl rfl ?_
  refine C29.iload at_213 rfl rfl ?_
  refine C29.iload at_215 rfl rfl ?_
  refine C29.callS (hw _ (List.mem_of_getElem? (i := 12) rfl)) (hw _ (List.mem_of_getElem? (i := 13) rfl)) (hw _ (List.mem_of_getElem? (i := 3) rfl)) (hw _ (List.mem_of_getElem? (i := 14) rfl)) (by decide) (rm4 l Z a0 hw b1 (4 : Int32) v12 v13 k1 (5 : Int32) [(.int (nar .byte (f1 i0))), (.int (nar .byte (f1 i1))), (.int (nar .byte (f1 i2))), (.int (nar .byte (f1 i3))), (.int (nar .byte (f1 i4)))] (.int (0 : Int32)) (nar .byte (f1 i4)) h11 n0 C29.size V_b1 ⟨by decide, by decide⟩ rfl) (argsL := [(.ref b1), (.int (4 : Int32)), (.int v12), (.int v13)]) pd4 rfl 1 (by decide) (by decide) (by decide) (by decide) (rest := [(.int ((((f4 (0 : Int32) v12 v13 (nar .byte (f1 i0))) + (f4 (1 : Int32) v12 v13 (nar .byte (f1 i1)))) + (f4 (2 : Int32) v12 v13 (nar .byte (f1 i2)))) + (f4 (3 : Int32) v12 v13 (nar .byte (f1 i3)))))]) rfl rfl (Nat.le_of_eq rfl) at_217 rfl (fun v30 T30 h30 C30 qq30 => ?_)
  obtain ⟨rfl, hh30⟩ := qq30
  have hh30 := hh30.symm; subst hh30
  show Go p e below F n0 (fun v _ => v = some (.int (1 : Int32))) T30 (mkF m 220 #[.val (.int i0), .val (.int i1), .val (.int i2), .val (.int i3), .val (.int i4), .val (.int i5), .val (.ref b1), .val (.int v12), .val (.int v13), .val (.int v15), .val (.int v17), .val (.int v19), .val (.int v21), .val (.int v23), .val (.int v24), .val (.int v25), .unset, .unset] [(.int (f4 (4 : Int32) v12 v13 (nar .byte (f1 i4)))), (.int ((((f4 (0 : Int32) v12 v13 (nar .byte (f1 i0))) + (f4 (1 : Int32) v12 v13 (nar .byte (f1 i1)))) + (f4 (2 : Int32) v12 v13 (nar .byte (f1 i2)))) + (f4 (3 : Int32) v12 v13 (nar .byte (f1 i3)))))])
  refine C30.iadd at_220 rfl ?_
  refine C30.istoreV (fun v => #[.val (.int i0), .val (.int i1), .val (.int i2), .val (.int i3), .val (.int i4), .val (.int i5), .val (.ref b1), .val (.int v12), .val (.int v13), .val (.int v15), .val (.int v17), .val (.int v19), .val (.int v21), .val (.int v23), .val (.int v24), .val (.int v25), .val (.int v), .unset]) at_221 rfl (fun _ => rfl) (fun v31 hv31 => ?_)
  refine C30.iload at_223 rfl rfl ?_
  have J291 : ∀ (T33 : State) (u32 : Int32), Cx p l e room_1 m #[(.int i0), (.int i1), (.int i2), (.int i3), (.int i4), (.int i5)] below meth c Z x code maxLocals ret n0 false F T33 h11 1 5 → u32 = (if v31 = (0 : Int32) then (if v24 = (0 : Int32) then (if v12 < v13 then (1 : Int32) else (0 : Int32)) else (if v24 = (1 : Int32) then (if v12 < v25 then (if v25 < (v13 - (1 : Int32)) then (1 : Int32) else (0 : Int32)) else (0 : Int32)) else (0 : Int32))) else (0 : Int32)) → Go p e below F n0 (fun v _ => v = some (.int (1 : Int32))) T33 (mkF m 291 #[.val (.int i0), .val (.int i1), .val (.int i2), .val (.int i3), .val (.int i4), .val (.int i5), .val (.ref b1), .val (.int v12), .val (.int v13), .val (.int v15), .val (.int v17), .val (.int v19), .val (.int v21), .val (.int v23), .val (.int v24), .val (.int v25), .val (.int v31), .val (.int u32)] []) := by
    intro T33 u32 C33 hu32
    refine C33.aload at_291 rfl rfl rfl ?_
    refine C33.iload at_293 rfl rfl ?_
    refine C33.iload at_295 rfl rfl ?_
    refine C33.callS (hw _ (List.mem_of_getElem? (i := 15) rfl)) (hw _ (List.mem_of_getElem? (i := 16) rfl)) (hw _ (List.mem_of_getElem? (i := 17) rfl)) (hw _ (List.mem_of_getElem? (i := 18) rfl)) (by decide) (rm5 l Z a0 hw b1 v12 v13 k1 (5 : Int32) [(.int (nar .byte (f1 i0))), (.int (nar .byte (f1 i1))), (.int (nar .byte (f1 i2))), (.int (nar .byte (f1 i3))), (.int (nar .byte (f1 i4)))] (.int (0 : Int32)) (fun j => ([(nar .byte (f1 i0)), (nar .byte (f1 i1)), (nar .byte (f1 i2)), (nar .byte (f1 i3)), (nar .byte (f1 i4))].getD j.toNatClampNeg (0 : Int32))) h11 n0 C33.size V_b1 (fun j _ => own_getI [(nar .byte (f1 i0)), (nar .byte (f1 i1)), (nar .byte (f1 i2)), (nar .byte (f1 i3)), (nar .byte (f1 i4))] _) (own_pre1 i0 i1 i2 i3 i4 i5 v12 v13 v15 v17 v19 v21 v23 v24 v25 v31 u32 hv12 hv13 hv15 hv17 hv19 hv21 hv23 hv24 hv25 hv31 hu32) (own_pre2 i0 i1 i2 i3 i4 i5 v12 v13 v15 v17 v19 v21 v23 v24 v25 v31 u32 hv12 hv13 hv15 hv17 hv19 hv21 hv23 hv24 hv25 hv31 hu32)) (argsL := [(.ref b1), (.int v12), (.int v13)]) pd5 rfl 0 (by decide) (by decide) (by decide) (by decide) (rest := []) rfl rfl (Nat.le_of_eq rfl) at_297 rfl (fun v34 T34 h34 C34 qq34 => ?_)
    obtain ⟨rfl, hh34⟩ := qq34
    have hh34 := hh34.symm; subst hh34
    show Go p e below F n0 (fun v _ => v = some (.int (1 : Int32))) T34 (mkF m 300 #[.val (.int i0), .val (.int i1), .val (.int i2), .val (.int i3), .val (.int i4), .val (.int i5), .val (.ref b1), .val (.int v12), .val (.int v13), .val (.int v15), .val (.int v17), .val (.int v19), .val (.int v21), .val (.int v23), .val (.int v24), .val (.int v25), .val (.int v31), .val (.int u32)] [(.int (loopD (fun j => ([(nar .byte (f1 i0)), (nar .byte (f1 i1)), (nar .byte (f1 i2)), (nar .byte (f1 i3)), (nar .byte (f1 i4))].getD j.toNatClampNeg (0 : Int32))) v12 v13 (v13.toInt - v12.toInt).toNat (-1 : Int32) v12))])
    refine C34.iload at_300 rfl rfl ?_
    refine C34.icmp_ne at_302 (by decide) (by decide : _ = 309) rfl (fun c302 => ?_) (fun c302 => ?_)
    · refine C34.iconst (0 : Int32) at_309 rfl rfl ?_
      exact (own_bad0 i0 i1 i2 i3 i4 i5 v12 v13 v15 v17 v19 v21 v23 v24 v25 v31 u32 hv12 hv13 hv15 hv17 hv19 hv21 hv23 hv24 hv25 hv31 hu32 c302).elim
    · refine C34.iconst (1 : Int32) at_305 rfl rfl ?_
      refine C34.goto at_306 (by decide) (by decide : _ = 310) ?_
      exact C34.retN (t := .boolean) at_310 rfl (by simp) (by decide) (by decide) (w := (1 : Int32)) rfl rfl
  refine C30.if_eq at_225 (by decide) (by decide : _ = 234) rfl (fun c225 => ?_) (fun c225 => ?_)
  · refine C30.iload at_234 rfl rfl ?_
    refine C30.if_ne at_236 (by decide) (by decide : _ = 256) rfl (fun c236 => ?_) (fun c236 => ?_)
    · refine C30.iload at_256 rfl rfl ?_
      refine C30.iconst (1 : Int32) at_258 rfl rfl ?_
      refine C30.icmp_ne at_259 (by decide) (by decide : _ = 288) rfl (fun c259 => ?_) (fun c259 => ?_)
      · refine C30.iconst (0 : Int32) at_288 rfl rfl ?_
        refine C30.istore at_289 rfl (L' := #[.val (.int i0), .val (.int i1), .val (.int i2), .val (.int i3), .val (.int i4), .val (.int i5), .val (.ref b1), .val (.int v12), .val (.int v13), .val (.int v15), .val (.int v17), .val (.int v19), .val (.int v21), .val (.int v23), .val (.int v24), .val (.int v25), .val (.int v31), .val (.int (0 : Int32))]) rfl ?_
        exact J291 _ (0 : Int32) C30 (by simp only [if_pos c225, if_neg c236, if_neg c259])
      · refine C30.iload at_262 rfl rfl ?_
        refine C30.iload at_264 rfl rfl ?_
        refine C30.icmp_le at_266 (by decide) (by decide : _ = 282) rfl (fun c266 => ?_) (fun c266 => ?_)
        · refine C30.iconst (0 : Int32) at_282 rfl rfl ?_
          refine C30.istore at_283 rfl (L' := #[.val (.int i0), .val (.int i1), .val (.int i2), .val (.int i3), .val (.int i4), .val (.int i5), .val (.ref b1), .val (.int v12), .val (.int v13), .val (.int v15), .val (.int v17), .val (.int v19), .val (.int v21), .val (.int v23), .val (.int v24), .val (.int v25), .val (.int v31), .val (.int (0 : Int32))]) rfl ?_
          refine C30.goto at_285 (by decide) (by decide : _ = 291) ?_
          exact J291 _ (0 : Int32) C30 (by simp only [if_pos c225, if_neg c236, if_pos c259, if_neg c266])
        · refine C30.iload at_269 rfl rfl ?_
          refine C30.iload at_271 rfl rfl ?_
          refine C30.iconst (1 : Int32) at_273 rfl rfl ?_
          refine C30.isub at_274 rfl ?_
          refine C30.icmp_ge at_275 (by decide) (by decide : _ = 282) rfl (fun c275 => ?_) (fun c275 => ?_)
          · refine C30.iconst (0 : Int32) at_282 rfl rfl ?_
            refine C30.istore at_283 rfl (L' := #[.val (.int i0), .val (.int i1), .val (.int i2), .val (.int i3), .val (.int i4), .val (.int i5), .val (.ref b1), .val (.int v12), .val (.int v13), .val (.int v15), .val (.int v17), .val (.int v19), .val (.int v21), .val (.int v23), .val (.int v24), .val (.int v25), .val (.int v31), .val (.int (0 : Int32))]) rfl ?_
            refine C30.goto at_285 (by decide) (by decide : _ = 291) ?_
            exact J291 _ (0 : Int32) C30 (by simp only [if_pos c225, if_neg c236, if_pos c259, if_pos c266, if_neg c275])
          · refine C30.iconst (1 : Int32) at_278 rfl rfl ?_
            refine C30.goto at_279 (by decide) (by decide : _ = 283) ?_
            refine C30.istore at_283 rfl (L' := #[.val (.int i0), .val (.int i1), .val (.int i2), .val (.int i3), .val (.int i4), .val (.int i5), .val (.ref b1), .val (.int v12), .val (.int v13), .val (.int v15), .val (.int v17), .val (.int v19), .val (.int v21), .val (.int v23), .val (.int v24), .val (.int v25), .val (.int v31), .val (.int (1 : Int32))]) rfl ?_
            refine C30.goto at_285 (by decide) (by decide : _ = 291) ?_
            exact J291 _ (1 : Int32) C30 (by simp only [if_pos c225, if_neg c236, if_pos c259, if_pos c266, if_pos c275])
    · refine C30.iload at_239 rfl rfl ?_
      refine C30.iload at_241 rfl rfl ?_
      refine C30.icmp_le at_243 (by decide) (by decide : _ = 250) rfl (fun c243 => ?_) (fun c243 => ?_)
      · refine C30.iconst (0 : Int32) at_250 rfl rfl ?_
        refine C30.istore at_251 rfl (L' := #[.val (.int i0), .val (.int i1), .val (.int i2), .val (.int i3), .val (.int i4), .val (.int i5), .val (.ref b1), .val (.int v12), .val (.int v13), .val (.int v15), .val (.int v17), .val (.int v19), .val (.int v21), .val (.int v23), .val (.int v24), .val (.int v25), .val (.int v31), .val (.int (0 : Int32))]) rfl ?_
        refine C30.goto at_253 (by decide) (by decide : _ = 291) ?_
        exact J291 _ (0 : Int32) C30 (by simp only [if_pos c225, if_pos c236, if_neg c243])
      · refine C30.iconst (1 : Int32) at_246 rfl rfl ?_
        refine C30.goto at_247 (by decide) (by decide : _ = 251) ?_
        refine C30.istore at_251 rfl (L' := #[.val (.int i0), .val (.int i1), .val (.int i2), .val (.int i3), .val (.int i4), .val (.int i5), .val (.ref b1), .val (.int v12), .val (.int v13), .val (.int v15), .val (.int v17), .val (.int v19), .val (.int v21), .val (.int v23), .val (.int v24), .val (.int v25), .val (.int v31), .val (.int (1 : Int32))]) rfl ?_
        refine C30.goto at_253 (by decide) (by decide : _ = 291) ?_
        exact J291 _ (1 : Int32) C30 (by simp only [if_pos c225, if_pos c236, if_pos c243])
  · refine C30.iconst (0 : Int32) at_228 rfl rfl ?_
    refine C30.istore at_229 rfl (L' := #[.val (.int i0), .val (.int i1), .val (.int i2), .val (.int i3), .val (.int i4), .val (.int i5), .val (.ref b1), .val (.int v12), .val (.int v13), .val (.int v15), .val (.int v17), .val (.int v19), .val (.int v21), .val (.int v23), .val (.int v24), .val (.int v25), .val (.int v31), .val (.int (0 : Int32))]) rfl ?_
    refine C30.goto at_231 (by decide) (by decide : _ = 291) ?_
    exact J291 _ (0 : Int32) C30 (by simp only [if_neg c225])
set_option maxRecDepth 65536 in
set_option maxHeartbeats 40000000 in
theorem comes_1 {Post : Tables → Env → Array Value → State → Outcome → State → Prop} (hpost : ∀ tb e args s v u, (limb_1_1.after args s (.returned v) u = true ∧ limb_1_2.after args s (.returned v) u = true ∧ True) → FrameEnd s (.returned v) u (Jvm.fieldLocs frame_1_writes args s ++ Jvm.arrayLocs frame_1_arrays args s ++ Jvm.staticLocs frame_1_statics s) 16 128 → Post tb e args s (.returned v) u) :
    ArmFor flags0 classFile x code maxLocals ret World_1 tables_1 room_1 Calls_1 rest_1 Pre_1 Post := by
  intro l hfl _ _ p e ha hc hk s m args below hf hA hF happ hP
  obtain ⟨hcalls, hrest, hpre⟩ := hP
  obtain ⟨-, -, -, hnamed, -, -, -, hat⟩ := (Spec.applies_iff hf).mp happ
  obtain ⟨hg, hn⟩ := and_e (Cond.before_iff.mp (show (Jvm.Cond.and given_1 narrow_1).before args s = true from hpre))
  obtain ⟨g1, g2⟩ := and_e hg
  obtain ⟨g3, g4⟩ := and_e g2
  obtain ⟨g5, g6⟩ := and_e g4
  obtain ⟨g7, g8⟩ := and_e g6
  obtain ⟨g9, g10⟩ := and_e g8
  obtain ⟨g11, g12⟩ := and_e g10
  obtain ⟨w0, w1, w2, w3, w4, w5, rfl⟩ : ∃ w0 w1 w2 w3 w4 w5 : Value, args = #[w0, w1, w2, w3, w4, w5] := by
    have hs : args.size = 6 := by simpa [Cond.value, given_1] using g1
    obtain ⟨L⟩ := args
    match L, hs with
    | [w0, w1, w2, w3, w4, w5], _ => exact ⟨w0, w1, w2, w3, w4, w5, rfl⟩
  have hw := fun d (hd : d ∈ tables_1) => atoms_spec (ws := Jvm.Cond.code x code maxLocals ret :: tables_1) hat d (List.mem_cons_of_mem _ hd)
  have hfit : Fit s := fun {y c} hc i hi => by
    obtain ⟨ha, rfl⟩ := Array.getElem?_eq_some_iff.mp hc
    have q := List.all_eq_true.mp ((Array.all_eq_true_iff_forall_mem.mp hF) _ (Array.getElem_mem ha)) i (List.mem_range.mpr hi)
    simpa [Array.getElem?_eq_getElem hi] using q
  obtain ⟨i0, ei0⟩ := is_v g3
  obtain rfl : w0 = (.int i0) := Option.some.inj ei0
  obtain ⟨i1, ei1⟩ := is_v g5
  obtain rfl : w1 = (.int i1) := Option.some.inj ei1
  obtain ⟨i2, ei2⟩ := is_v g7
  obtain rfl : w2 = (.int i2) := Option.some.inj ei2
  obtain ⟨i3, ei3⟩ := is_v g9
  obtain rfl : w3 = (.int i3) := Option.some.inj ei3
  obtain ⟨i4, ei4⟩ := is_v g11
  obtain rfl : w4 = (.int i4) := Option.some.inj ei4
  obtain ⟨i5, ei5⟩ := is_v g12
  obtain rfl : w5 = (.int i5) := Option.some.inj ei5
  obtain ⟨n, o, h1, h2, h3, _, L, rfl, ⟨⟨rfl, -⟩, N⟩, hq⟩ := rm0 l s _ hw i0 i1 i2 i3 i4 i5 s.heap s.heap.size (Nat.le_refl _) tables_1 p e ha hc hk s m _ below hf ((Spec.applies_iff_loose hf).mp happ).1 ⟨rfl, State.Warmed39.refl s, rfl⟩ trivial
  refine ⟨n, _, h1, h2, h3, hpost _ _ _ _ _ _ ⟨Cond.after_iff.mpr rfl, Cond.after_iff.mpr (eq_i res_at (Term.int_eval (1)) rfl), trivial⟩ ⟨hq.1, hq.2.1, (hq.2.2.sift fun y hy => Or.inr (N y hy)).mono (by decide) (by decide)⟩⟩
theorem main_1_1 : Claimed_1_1 := comes_1 fun _ _ _ _ _ _ h hF => ⟨h.1, hF⟩
theorem main_1_2 : Claimed_1_2 := comes_1 fun _ _ _ _ _ _ h hF => ⟨h.2.1, hF⟩
end Jvm.Pilot.@@N@@
namespace Jvm.Pilot.@@N@@
open Jvm Jvm.ClassFile Sem Op Lib Jvm.Free Jvm.Stand Jvm.Pilot.@@N@@.Jvm.D
/-! MADE BY PROGRAM (witnessworld.py) out of the Statement's table words and the real class files: 9 classes; the members and pool entries that the words name. The judged class is class 1, her method 7. -/
namespace start1
open Jvm.ClassFile
def u (s : String) : CpInfo := .utf8 (stringToUtf16 s)
/-- a pool by its gaps: so many unusable entries, then the entry; so many at the end -/
def gap : Nat → List CpInfo → List CpInfo
  | 0, r => r
  | n + 1, r => .unusable :: gap n r
def poolList (es : List (Nat × CpInfo)) (last : Nat) : List CpInfo := es.foldr (fun e r => gap e.1 (e.2 :: r)) (gap last [])
def pool (es : List (Nat × CpInfo)) (last : Nat) : Array CpInfo := ⟨poolList es last⟩
def fileOf (pool : Array CpInfo) (this : Nat) (attrs : Array Attribute := #[]) (ms : Array MethodInfo := #[]) (fl : Nat := 33) (sup : Nat := 0) (ifs : Array Nat := #[]) (fds : Array FieldInfo := #[]) : ClassFile where
  minorVersion := 0
  majorVersion := 65
  constantPool := pool
  accessFlags := fl
  thisClass := this
  superClass := sup
  interfaces := ifs
  fields := fds
  methods := ms
  attributes := attrs
def plain (name : String) (sup : Option ClassId) : Class where
  name := name
  kind := .ordinary
  loader := none
  accessFlags := 33
  super := sup
  interfaces := #[]
  cf := none
  fields := #[]
  methods := #[]
  instanceTypes := #[]
  staticTypes := #[]
  resolved := #[]
  callSites := []
  init := .initialized
  statics := none
  mirror := none

def pool0 : Array CpInfo := pool [(5, u "<init>"), (0, u "()V"), (1, .class_ 10), (1, u "java/lang/Object")] 113

def k0m0 : Method := { name := "<init>", desc := "()V", sig := { parameters := [], returnType := none }, accessFlags := 1, code := none }
/-- java/lang/Object -/
def k0 : Class := { plain "java/lang/Object" none with
  accessFlags := 33
  interfaces := #[]
  cf := some (fileOf pool0 8 #[] #[{ accessFlags := 1, nameIndex := 5, descriptorIndex := 6, attributes := #[] }] 33 0 #[] #[])
  fields := #[]
  methods := #[k0m0]
  instanceTypes := #[]
  staticTypes := #[]
  resolved := Array.replicate 124 none
  statics := none }

def pool1 : Array CpInfo := pool [(2, .class_ 4), (1, u "java/lang/Object"), (0, u "<init>"), (0, u "()V"), (0, .methodref 8 9), (0, .class_ 10), (0, .nameAndType 11 12), (0, u "com/example/exdate/exdate/ValuesIsDecimalPinLaw"), (0, u "in"), (0, u "(III)Z"), (0, .methodref 8 14), (0, .nameAndType 15 16), (0, u "isPoint"), (0, u "(B)Z"), (0, .methodref 8 18), (0, .nameAndType 19 16), (0, u "isDigit"), (0, .methodref 8 21), (0, .nameAndType 22 23), (0, u "draw"), (0, u "(I)B"), (0, .integer 65535), (0, .methodref 8 26), (0, .nameAndType 27 28), (0, u "pointAt"), (0, u "([BIII)I"), (0, .methodref 8 30), (0, .nameAndType 31 28), (0, u "badAt"), (0, .methodref 33 34), (0, .class_ 35), (0, .nameAndType 36 37), (0, u "com/example/exdate/exdate/Values"), (0, u "isDecimal"), (0, u "([BII)Z"), (3, u "law"), (0, u "(IIIIII)Z")] 4

def k1m0 : Method := { name := "<init>", desc := "()V", sig := { parameters := [], returnType := none }, accessFlags := 2, code := none }
def k1c1 : Code := { maxStack := 3, maxLocals := 2, code := method_2_code, exceptionTable := #[], attributes := #[] }
def k1m1 : Method := { name := "draw", desc := "(I)B", sig := { parameters := [.int], returnType := some .byte }, accessFlags := 10, code := some k1c1 }
def k1c2 : Code := { maxStack := 2, maxLocals := 3, code := method_3_code, exceptionTable := #[], attributes := #[] }
def k1m2 : Method := { name := "in", desc := "(III)Z", sig := { parameters := [.int, .int, .int], returnType := some .boolean }, accessFlags := 10, code := some k1c2 }
def k1c3 : Code := { maxStack := 2, maxLocals := 1, code := method_4_code, exceptionTable := #[], attributes := #[] }
def k1m3 : Method := { name := "isPoint", desc := "(B)Z", sig := { parameters := [.byte], returnType := some .boolean }, accessFlags := 10, code := some k1c3 }
def k1c4 : Code := { maxStack := 2, maxLocals := 1, code := method_5_code, exceptionTable := #[], attributes := #[] }
def k1m4 : Method := { name := "isDigit", desc := "(B)Z", sig := { parameters := [.byte], returnType := some .boolean }, accessFlags := 10, code := some k1c4 }
def k1c5 : Code := { maxStack := 3, maxLocals := 4, code := method_6_code, exceptionTable := #[], attributes := #[] }
def k1m5 : Method := { name := "pointAt", desc := "([BIII)I", sig := { parameters := [(.array .byte), .int, .int, .int], returnType := some .int }, accessFlags := 10, code := some k1c5 }
def k1c6 : Code := { maxStack := 3, maxLocals := 4, code := method_7_code, exceptionTable := #[], attributes := #[] }
def k1m6 : Method := { name := "badAt", desc := "([BIII)I", sig := { parameters := [(.array .byte), .int, .int, .int], returnType := some .int }, accessFlags := 10, code := some k1c6 }
def k1c7 : Code := { maxStack := 5, maxLocals := 18, code := code, exceptionTable := #[], attributes := #[] }
def k1m7 : Method := { name := "law", desc := "(IIIIII)Z", sig := { parameters := [.int, .int, .int, .int, .int, .int], returnType := some .boolean }, accessFlags := 9, code := some k1c7 }
/-- com/example/exdate/exdate/ValuesIsDecimalPinLaw -/
def k1 : Class := { plain "com/example/exdate/exdate/ValuesIsDecimalPinLaw" (some 0) with
  accessFlags := 49
  interfaces := #[]
  cf := some (fileOf pool1 8 #[] #[{ accessFlags := 2, nameIndex := 5, descriptorIndex := 6, attributes := #[] }, { accessFlags := 10, nameIndex := 22, descriptorIndex := 23, attributes := #[] }, { accessFlags := 10, nameIndex := 11, descriptorIndex := 12, attributes := #[] }, { accessFlags := 10, nameIndex := 15, descriptorIndex := 16, attributes := #[] }, { accessFlags := 10, nameIndex := 19, descriptorIndex := 16, attributes := #[] }, { accessFlags := 10, nameIndex := 27, descriptorIndex := 28, attributes := #[] }, { accessFlags := 10, nameIndex := 31, descriptorIndex := 28, attributes := #[] }, { accessFlags := 9, nameIndex := 41, descriptorIndex := 42, attributes := #[] }] 49 2 #[] #[])
  fields := #[]
  methods := #[k1m0, k1m1, k1m2, k1m3, k1m4, k1m5, k1m6, k1m7]
  instanceTypes := #[]
  staticTypes := #[]
  resolved := Array.replicate 47 none
  statics := none }

def pool2 : Array CpInfo := pool [(1, .class_ 2), (0, u "com/example/exdate/exdate/Values"), (1, .class_ 6), (1, u "java/lang/Object"), (0, u "<init>"), (0, u "()V"), (50, u "isDecimal"), (0, u "([BII)Z"), (180, u "UNDERLYING_FORM"), (0, u "Ljava/lang/String;"), (3, u "UNDERLYING_PROBLEM"), (2, u "MAX_WRITTEN_SCALE"), (0, u "I"), (1, u "PLAIN_TEXT_ROOM"), (1, u "DATE_FORM"), (2, u "SYMBOLS_FORM")] 31

def k2m0 : Method := { name := "<init>", desc := "()V", sig := { parameters := [], returnType := none }, accessFlags := 2, code := none }
def k2c1 : Code := { maxStack := 3, maxLocals := 5, code := prog_32_method_6_code, exceptionTable := #[], attributes := #[] }
def k2m1 : Method := { name := "isDecimal", desc := "([BII)Z", sig := { parameters := [(.array .byte), .int, .int], returnType := some .boolean }, accessFlags := 8, code := some k2c1 }
/-- com/example/exdate/exdate/Values -/
def k2 : Class := { plain "com/example/exdate/exdate/Values" (some 0) with
  accessFlags := 48
  interfaces := #[]
  cf := some (fileOf pool2 1 #[] #[{ accessFlags := 2, nameIndex := 7, descriptorIndex := 8, attributes := #[] }, { accessFlags := 8, nameIndex := 59, descriptorIndex := 60, attributes := #[] }] 48 4 #[] #[{ accessFlags := 24, nameIndex := 241, descriptorIndex := 242, attributes := #[] }, { accessFlags := 24, nameIndex := 246, descriptorIndex := 242, attributes := #[] }, { accessFlags := 26, nameIndex := 249, descriptorIndex := 250, attributes := #[] }, { accessFlags := 24, nameIndex := 252, descriptorIndex := 250, attributes := #[] }, { accessFlags := 24, nameIndex := 254, descriptorIndex := 242, attributes := #[] }, { accessFlags := 24, nameIndex := 257, descriptorIndex := 242, attributes := #[] }])
  fields := #[{ name := "UNDERLYING_FORM", type := (.object "java/lang/String"), accessFlags := 24, slot := 0, constantValue := 0 }, { name := "UNDERLYING_PROBLEM", type := (.object "java/lang/String"), accessFlags := 24, slot := 1, constantValue := 0 }, { name := "MAX_WRITTEN_SCALE", type := .int, accessFlags := 26, slot := 2, constantValue := 0 }, { name := "PLAIN_TEXT_ROOM", type := .int, accessFlags := 24, slot := 3, constantValue := 0 }, { name := "DATE_FORM", type := (.object "java/lang/String"), accessFlags := 24, slot := 4, constantValue := 0 }, { name := "SYMBOLS_FORM", type := (.object "java/lang/String"), accessFlags := 24, slot := 5, constantValue := 0 }]
  methods := #[k2m0, k2m1]
  instanceTypes := #[]
  staticTypes := #[(.object "java/lang/String"), (.object "java/lang/String"), .int, .int, (.object "java/lang/String"), (.object "java/lang/String")]
  resolved := Array.replicate 289 none
  statics := none }

def pool3 : Array CpInfo := pool [(1, u "java/lang/Cloneable"), (0, .class_ 1), (0, u "java/lang/Object"), (0, .class_ 3)] 3

/-- java/lang/Cloneable -/
def k3 : Class := { plain "java/lang/Cloneable" (some 0) with
  accessFlags := 1537
  interfaces := #[]
  cf := some (fileOf pool3 2 #[] #[] 1537 4 #[] #[])
  fields := #[]
  methods := #[]
  instanceTypes := #[]
  staticTypes := #[]
  resolved := Array.replicate 8 none
  statics := none }

def pool4 : Array CpInfo := pool [(1, u "java/io/Serializable"), (0, .class_ 1), (0, u "java/lang/Object"), (0, .class_ 3)] 3

/-- java/io/Serializable -/
def k4 : Class := { plain "java/io/Serializable" (some 0) with
  accessFlags := 1537
  interfaces := #[]
  cf := some (fileOf pool4 2 #[] #[] 1537 4 #[] #[])
  fields := #[]
  methods := #[]
  instanceTypes := #[]
  staticTypes := #[]
  resolved := Array.replicate 8 none
  statics := none }

/-- the primitive byte -/
def k5 : Class := { plain "byte" none with kind := .primitive 'B', accessFlags := 0x411 }
/-- [B -/
def k6 : Class := { plain "[B" (some 0) with kind := .array 5 .byte, interfaces := #[3, 4], accessFlags := 1041 }

/-- the primitive int -/
def k7 : Class := { plain "int" none with kind := .primitive 'I', accessFlags := 0x411 }
/-- [I -/
def k8 : Class := { plain "[I" (some 0) with kind := .array 7 .int, interfaces := #[3, 4], accessFlags := 1041 }

def heap : Heap := #[]
def classes : Array Class := #[k0, k1, k2, k3, k4, k5, k6, k7, k8]
def interned : List (Array UInt16 × Addr) := []
def slotsUsed : Nat := 0
def theMethod : MethodId := ⟨1, 7⟩
def args0 : Array Value := #[.int 5, .int 7, .int 9, .int 1, .int 3, .int 70000]
def aboutOver (below : List Frame) : State where
  vm := { classes := classes, interned := interned.toArray }
  heap := heap
  slotsUsed := slotsUsed
  threads := #[{ frames := .invoking theMethod args0 :: below }]
def below0 : List Frame := [.native { method := ⟨0, 0⟩, args := #[] }]
def about1 : State := aboutOver below0
def p0 : Program := .bare "" "" ""
def e0 : Env := launch0.env 0 0 0
theorem w_frames : about1.frames = Frame.invoking theMethod args0 :: below0 := rfl
set_option maxRecDepth 65536 in
theorem w_args : argsFit about1.vm theMethod args0 = true := by decide +kernel
set_option maxRecDepth 65536 in
theorem w_heap : heapFits about1 = true := by decide +kernel
set_option maxRecDepth 65536 in
theorem w_runnable : about1.curStatus? = some .runnable := by decide +kernel
set_option maxRecDepth 65536 in
theorem w_alone : about1.alone = true := by decide +kernel
set_option maxRecDepth 65536 in
theorem w_named : about1.methodNamed? x = some theMethod := by decide +kernel
set_option maxRecDepth 65536 in
theorem w_hears : about1.hears theMethod below0 = true := by decide +kernel
set_option maxRecDepth 65536 in
theorem w_ripe : about1.ripe theMethod args0 below0 = true := by decide +kernel
theorem w_running : about1.status = .running := rfl
set_option maxRecDepth 65536 in
theorem w_room : about1.hasRoom e0.platform room_1 = true :=
  launch0.hasRoom_least _ room_1 (by decide +kernel) (by decide +kernel) (by decide +kernel) (by decide +kernel) (by decide +kernel) (by decide +kernel)
theorem allAtoms_all (ts : List Jvm.Cond) (a : Array Jvm.Value) (st : Jvm.State) : (allAtoms ts).before a st = ts.all (fun c => c.before a st) := by
  induction ts with
  | nil => rfl
  | cons c t ih =>
    show (Jvm.Cond.and c (allAtoms t)).before a st = _
    rw [Jvm.Cond.before_and, ih, List.all_cons]
def words1 : List Jvm.Cond := Jvm.Cond.code x code maxLocals ret :: tables_1
/-- a 'code' word, met by the world's own term for the bytes: nothing is compared byte by byte -/
theorem code_word {y : MethodName} {bytes : ByteArray} {mx : Nat} {rt : Option FieldType} {a : Array Value} {s : State} {m : MethodId} {meth : Method} {c : Code} (h1 : s.methodNamed? y = some m) (h2 : s.vm.method? m = some meth) (h3 : meth.code = some c) (h4 : c.code = bytes)
    (h5 : (c.maxLocals == mx && c.exceptionTable.isEmpty && decide (c.maxStack ≤ mostOperands) && decide (meth.sig.returnType = rt) && !meth.locks && decide (parseMethodDescriptor y.desc = some meth.sig)) = true) : (Jvm.Cond.code y bytes mx rt).before a s = true := by
  simp only [Bool.and_eq_true, beq_iff_eq, Bool.not_eq_true', decide_eq_true_eq] at h5
  obtain ⟨⟨⟨⟨⟨g1, g2⟩, g3⟩, g4⟩, g5⟩, g6⟩ := h5
  simp [Cond.before, Cond.holds, Cond.value, h1, h2, h3, h4, g1, g2, g3, g4, g5, g6]
def isCode : Jvm.Cond → Bool
  | .code _ _ _ _ => true
  | _ => false
theorem all_split {L : List Jvm.Cond} {P : Jvm.Cond → Bool} (h1 : L.all (fun c => isCode c || P c) = true) (h2 : ∀ c ∈ L.filter isCode, P c = true) : L.all P = true := by
  refine List.all_eq_true.mpr fun c hc => ?_
  have h := List.all_eq_true.mp h1 c hc
  rcases Bool.eq_false_or_eq_true (isCode c) with hi | hi
  · exact h2 c (List.mem_filter.mpr ⟨hc, hi⟩)
  · simpa [hi] using h
set_option maxRecDepth 65536 in
theorem w_c0 : (Jvm.Cond.code x code maxLocals ret).before args0 about1 = true := code_word (m := ⟨1, 7⟩) (meth := k1m7) (c := k1c7) (by decide +kernel) rfl rfl rfl (by decide +kernel)
set_option maxRecDepth 65536 in
theorem w_c1 : (Jvm.Cond.code ({ cls := "com/example/exdate/exdate/ValuesIsDecimalPinLaw", name := "draw", desc := "(I)B" } : Jvm.MethodName) method_2_code (2 : Nat) (Option.some Jvm.ClassFile.FieldType.byte)).before args0 about1 = true := code_word (m := ⟨1, 1⟩) (meth := k1m1) (c := k1c1) (by decide +kernel) rfl rfl rfl (by decide +kernel)
set_option maxRecDepth 65536 in
theorem w_c2 : (Jvm.Cond.code ({ cls := "com/example/exdate/exdate/ValuesIsDecimalPinLaw", name := "pointAt", desc := "([BIII)I" } : Jvm.MethodName) method_6_code (4 : Nat) (Option.some Jvm.ClassFile.FieldType.int)).before args0 about1 = true := code_word (m := ⟨1, 5⟩) (meth := k1m5) (c := k1c5) (by decide +kernel) rfl rfl rfl (by decide +kernel)
set_option maxRecDepth 65536 in
theorem w_c3 : (Jvm.Cond.code ({ cls := "com/example/exdate/exdate/ValuesIsDecimalPinLaw", name := "in", desc := "(III)Z" } : Jvm.MethodName) method_3_code (3 : Nat) (Option.some Jvm.ClassFile.FieldType.boolean)).before args0 about1 = true := code_word (m := ⟨1, 2⟩) (meth := k1m2) (c := k1c2) (by decide +kernel) rfl rfl rfl (by decide +kernel)
set_option maxRecDepth 65536 in
theorem w_c4 : (Jvm.Cond.code ({ cls := "com/example/exdate/exdate/ValuesIsDecimalPinLaw", name := "badAt", desc := "([BIII)I" } : Jvm.MethodName) method_7_code (4 : Nat) (Option.some Jvm.ClassFile.FieldType.int)).before args0 about1 = true := code_word (m := ⟨1, 6⟩) (meth := k1m6) (c := k1c6) (by decide +kernel) rfl rfl rfl (by decide +kernel)
set_option maxRecDepth 65536 in
theorem w_c5 : (Jvm.Cond.code ({ cls := "com/example/exdate/exdate/Values", name := "isDecimal", desc := "([BII)Z" } : Jvm.MethodName) prog_32_method_6_code (5 : Nat) (Option.some Jvm.ClassFile.FieldType.boolean)).before args0 about1 = true := code_word (m := ⟨2, 1⟩) (meth := k2m1) (c := k2c1) (by decide +kernel) rfl rfl rfl (by decide +kernel)
set_option maxRecDepth 65536 in
theorem w_c6 : (Jvm.Cond.code ({ cls := "com/example/exdate/exdate/ValuesIsDecimalPinLaw", name := "isPoint", desc := "(B)Z" } : Jvm.MethodName) method_4_code (1 : Nat) (Option.some Jvm.ClassFile.FieldType.boolean)).before args0 about1 = true := code_word (m := ⟨1, 3⟩) (meth := k1m3) (c := k1c3) (by decide +kernel) rfl rfl rfl (by decide +kernel)
set_option maxRecDepth 65536 in
theorem w_c7 : (Jvm.Cond.code ({ cls := "com/example/exdate/exdate/ValuesIsDecimalPinLaw", name := "isDigit", desc := "(B)Z" } : Jvm.MethodName) method_5_code (1 : Nat) (Option.some Jvm.ClassFile.FieldType.boolean)).before args0 about1 = true := code_word (m := ⟨1, 4⟩) (meth := k1m4) (c := k1c4) (by decide +kernel) rfl rfl rfl (by decide +kernel)
def codes1 : List Jvm.Cond := [Jvm.Cond.code x code maxLocals ret, Jvm.Cond.code ({ cls := "com/example/exdate/exdate/ValuesIsDecimalPinLaw", name := "draw", desc := "(I)B" } : Jvm.MethodName) method_2_code (2 : Nat) (Option.some Jvm.ClassFile.FieldType.byte), Jvm.Cond.code ({ cls := "com/example/exdate/exdate/ValuesIsDecimalPinLaw", name := "pointAt", desc := "([BIII)I" } : Jvm.MethodName) method_6_code (4 : Nat) (Option.some Jvm.ClassFile.FieldType.int), Jvm.Cond.code ({ cls := "com/example/exdate/exdate/ValuesIsDecimalPinLaw", name := "in", desc := "(III)Z" } : Jvm.MethodName) method_3_code (3 : Nat) (Option.some Jvm.ClassFile.FieldType.boolean), Jvm.Cond.code ({ cls := "com/example/exdate/exdate/ValuesIsDecimalPinLaw", name := "badAt", desc := "([BIII)I" } : Jvm.MethodName) method_7_code (4 : Nat) (Option.some Jvm.ClassFile.FieldType.int), Jvm.Cond.code ({ cls := "com/example/exdate/exdate/Values", name := "isDecimal", desc := "([BII)Z" } : Jvm.MethodName) prog_32_method_6_code (5 : Nat) (Option.some Jvm.ClassFile.FieldType.boolean), Jvm.Cond.code ({ cls := "com/example/exdate/exdate/ValuesIsDecimalPinLaw", name := "isPoint", desc := "(B)Z" } : Jvm.MethodName) method_4_code (1 : Nat) (Option.some Jvm.ClassFile.FieldType.boolean), Jvm.Cond.code ({ cls := "com/example/exdate/exdate/ValuesIsDecimalPinLaw", name := "isDigit", desc := "(B)Z" } : Jvm.MethodName) method_5_code (1 : Nat) (Option.some Jvm.ClassFile.FieldType.boolean)]
set_option maxRecDepth 65536 in
theorem codes_eq : words1.filter isCode = codes1 := rfl
theorem w_codes : ∀ c ∈ words1.filter isCode, c.before args0 about1 = true := by
  rw [codes_eq]
  intro c hc
  simp only [codes1, List.mem_cons, List.not_mem_nil, or_false] at hc
  rcases hc with rfl | rfl | rfl | rfl | rfl | rfl | rfl | rfl
  · exact w_c0
  · exact w_c1
  · exact w_c2
  · exact w_c3
  · exact w_c4
  · exact w_c5
  · exact w_c6
  · exact w_c7
set_option maxRecDepth 65536 in
theorem w_t1 : (words1.take 24).all (fun c => isCode c || c.before args0 about1) = true := by decide +kernel
set_option maxRecDepth 65536 in
theorem w_t2 : (words1.drop 24).all (fun c => isCode c || c.before args0 about1) = true := by decide +kernel
theorem w_tables : (allAtoms (Jvm.Cond.code x code maxLocals ret :: tables_1)).before args0 about1 = true := by
  rw [allAtoms_all]
  show words1.all (fun c => c.before args0 about1) = true
  refine all_split ?_ w_codes
  rw [← List.take_append_drop 24 words1, List.all_append, w_t1, w_t2]
  rfl
set_option maxRecDepth 65536 in
theorem w_case : (Jvm.Cond.and given_1 narrow_1).before args0 about1 = true := by decide +kernel
theorem w_applies : (headSpec (Jvm.Cond.code x code maxLocals ret :: tables_1) room_1).applies x e0.platform about1 = true :=
  (Spec.applies_iff w_frames).mpr ⟨w_running, w_runnable, w_alone, w_named, w_hears, w_ripe, w_room, w_tables⟩
theorem atStart : AtStart classFile x code maxLocals ret World_1 tables_1 room_1 Calls_1 rest_1 Pre_1 launch0 p0 e0 about1 theMethod args0 below0 :=
  ⟨lists_1, trivial, launch0.admits_env _ _ _, launch0.least_env, fairChoices_fair.cas, fairChoices_fair.clock, w_frames, w_args, w_heap, w_applies, trivial, trivial, w_case⟩
end start1
theorem witness_1 : WitnessClaimed_1 := ⟨start1.p0, start1.e0, start1.about1, start1.theMethod, start1.args0, start1.below0, start1.atStart⟩
end Jvm.Pilot.@@N@@
