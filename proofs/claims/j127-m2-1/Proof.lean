import JvmDerived
import JvmDerived.Pilot.@@N@@Statement
import JvmDerived.Pilot.@@N@@Code
set_option linter.unusedVariables false
set_option linter.unusedSimpArgs false
namespace Jvm.Ow
open Sem ClassFile Op Lib Jvm.Stand Jvm.Free Jvm.LawKit Jvm.RoadKit
def WideEnd (s : State) (o : Outcome) (t : State) (L : List Loc) (k n : Nat) : Prop :=
  (∃ v : Option Value, o = Outcome.returned v) ∧ s.Warmed39 t.vm ∧ (∀ (j : Nat) (p : Array UInt16 × Addr), s.vm.interned.size ≤ j → t.vm.interned[j]? = some p → s.heap.size ≤ p.2 ∧ p.2 < t.heap.size) ∧ s.sameButNew { t with vm := s.vm } L k n
def EndF (wd : Bool) (s : State) (o : Outcome) (t : State) (L : List Loc) (k n : Nat) : Prop := match wd with
  | true => WideEnd s o t L k n
  | false => FrameEnd s o t L k n
theorem EndF.of {wd : Bool} {s : State} {o : Outcome} {t : State} {L : List Loc} {k n : Nat} (h : FrameEnd s o t L k n) : EndF wd s o t L k n := by
  cases wd
  · exact h
  · exact wide h
def Cx (p : Program) (l : Launch) (e : Env) (R : Room) (m : MethodId) (args : Array Value) (below : List Frame) (meth : Method) (c : Code) (Z : State) (y : MethodName) (bytes : ByteArray) (ml : Nat) (ret : Option FieldType) (n0 : Nat) (wd : Bool) (F : Outcome → State → List Loc → Prop) (T : State) (h : Heap) (cells slots : Nat) : Prop :=
  ∃ s locs, Stand p l e R s m args below meth c T locs cells slots ∧ p.tables.exec = Jvm.exec ∧ c.code = bytes ∧ c.maxLocals = ml ∧ Z.Warmed39 s.vm ∧ s.vm.findClass y.cls = some m.cls ∧ meth.name = y.name ∧ meth.sig.returnType = ret ∧ meth.locks = false ∧ T.heap = h ∧ Fr n0 locs ∧ n0 ≤ s.heap.size ∧ ∀ o t L, h.size ≤ t.heap.size → EndF wd s o t L R.cells R.slots → F o t L
def Go (p : Program) (e : Env) (below : List Frame) (F : Outcome → State → List Loc → Prop) (n0 : Nat) (Q : Option Value → Heap → Prop) (T : State) (f : JFrame) : Prop :=
  ∃ s₂ o, Steps p.tables e below (T.setTop f) s₂ ∧ s₂.status = .running ∧ Ended s₂ below o ∧ ∃ v L, o = .returned v ∧ (Q v s₂.heap ∧ Fr n0 L ∧ n0 ≤ s₂.heap.size) ∧ F o s₂ L
def Ctr (l : Launch) (Z : State) (y : MethodName) (bytes : ByteArray) (ml : Nat) (ret : Option FieldType) (R : Room) (as' : Array Value) (h : Heap) (n0 : Nat) (Q : Option Value → Heap → Prop) : Prop :=
  ∀ ws : List Jvm.Cond, MetFree l y (head1 (Jvm.Cond.code y bytes ml ret :: ws) R) (fun a U => a = as' ∧ Z.Warmed39 U.vm ∧ U.heap = h) (fun _ _ _ _ _ => True) (fun _ U o U' => ∃ v L, o = .returned v ∧ ((Q v U'.heap ∧ h.size ≤ U'.heap.size) ∧ Fr n0 L) ∧ FrameEnd U o U' L R.cells R.slots)
section Layer
variable {p : Program} {l : Launch} {e : Env} {R : Room} {m : MethodId} {args : Array Value} {below : List Frame} {meth : Method} {c : Code} {T T' : State} {cells slots : Nat} {Z : State} {a0 : Array Value} {h : Heap} {y : MethodName} {bytes : ByteArray} {ml n0 : Nat} {ret : Option FieldType} {wd : Bool} {F : Outcome → State → List Loc → Prop} {Q : Option Value → Heap → Prop} {pc pc' : Nat} {L L' : Array Slot} {S : List Value}
theorem Ctr.body {as' : Array Value} (hpl : plainFor y = true) (hn : n0 ≤ h.size) (ef : ∀ m, entryFrame m as' ml = mkF m 0 L [])
    (k : ∀ (p : Program) (e : Env) (F : Outcome → State → List Loc → Prop) (m : MethodId) (below : List Frame) (meth : Method) (c : Code) (T : State), Cx p l e R m as' below meth c Z y bytes ml ret n0 false F T h 0 0 → Go p e below F n0 Q T (mkF m 0 L [])) : Ctr l Z y bytes ml ret R as' h n0 Q := by
  intro ws
  refine MetFree.of_bodySF hpl hisR ?_
  intro p e s m args below meth c s₁ Bd hml0 hP hK
  obtain ⟨rfl, hZ, hh⟩ := hP
  obtain ⟨s₂, o, g1, g2, g3, v, L9, g4, ⟨g5, g6, -⟩, g7⟩ := k p e (fun o t L => FrameEnd s o t L R.cells R.slots) m below meth c s₁ ⟨s, [], Stand.of_body Bd, Bd.exec, Bd.bytes, hml0, hZ, findClass_of_methodNamed Bd.named, (name_of_methodNamed Bd.named Bd.method).1, Bd.returns, Bd.notSynchronized, by rw [← hh, Bd.state]; rfl, Fr.nil n0, by rw [hh]; exact hn, fun _ _ _ _ q => q⟩
  rw [ef m]
  exact ⟨s₂, o, g1, g2, g3, v, L9, g4, ⟨⟨g5, by rw [← hh]; exact g7.2.2.2.1⟩, g6⟩, g7⟩
theorem Go.via {f f' : JFrame} (k : Go p e below F n0 Q T' f') (hs : ∀ t, Steps p.tables e below (T'.setTop f') t → Steps p.tables e below (T.setTop f) t) : Go p e below F n0 Q T f := by
  obtain ⟨s₂, o, h1, h2⟩ := k; exact ⟨s₂, o, hs _ h1, h2⟩
theorem Cx.size (C : Cx p l e R m args below meth c Z y bytes ml ret n0 wd F T h cells slots) : n0 ≤ h.size := by
  obtain ⟨s, locs, X, -, -, -, -, -, -, -, -, rfl, -, hn, -⟩ := C
  exact Nat.le_trans hn X.same.2.1
theorem Cx.iloadN (C : Cx p l e R m args below meth c Z y bytes ml ret n0 wd F T h cells slots) {k : Fin 4} {v : Int32} (hd : decode bytes pc = .ok (.iload_n k, 1)) (hp : pc + 1 = pc') (hl : L[k.val]? = some (.val (.int v))) (K : Go p e below F n0 Q T (mkF m pc' L (.int v :: S))) : Go p e below F n0 Q T (mkF m pc L S) := by
  obtain ⟨s, locs, X, hx, rfl, -⟩ := C; subst hp
  exact K.via fun t k => XS.iloadN X.here hx rfl hd hl k
theorem Cx.iload (C : Cx p l e R m args below meth c Z y bytes ml ret n0 wd F T h cells slots) {k : Nat} {v : Int32} (hd : decode bytes pc = .ok (.iload k, 2)) (hp : pc + 2 = pc') (hl : L[k]? = some (.val (.int v))) (K : Go p e below F n0 Q T (mkF m pc' L (.int v :: S))) : Go p e below F n0 Q T (mkF m pc L S) := by
  obtain ⟨s, locs, X, hx, rfl, -⟩ := C; subst hp
  exact K.via fun t k => XS.iload X.here hx rfl hd hl k
theorem Cx.istoreN (C : Cx p l e R m args below meth c Z y bytes ml ret n0 wd F T h cells slots) {k : Fin 4} {x : Int32} (hd : decode bytes pc = .ok (.istore_n k, 1)) (hp : pc + 1 = pc') (hl : storeLocals L k.val (.int x) = some L') (K : Go p e below F n0 Q T (mkF m pc' L' S)) : Go p e below F n0 Q T (mkF m pc L (.int x :: S)) := by
  obtain ⟨s, locs, X, hx, rfl, -⟩ := C; subst hp
  exact K.via fun t k => XS.istoreN X.here hx rfl hd rfl hl k
theorem Cx.istore (C : Cx p l e R m args below meth c Z y bytes ml ret n0 wd F T h cells slots) {k : Nat} {x : Int32} (hd : decode bytes pc = .ok (.istore k, 2)) (hp : pc + 2 = pc') (hl : storeLocals L k (.int x) = some L') (K : Go p e below F n0 Q T (mkF m pc' L' S)) : Go p e below F n0 Q T (mkF m pc L (.int x :: S)) := by
  obtain ⟨s, locs, X, hx, rfl, -⟩ := C; subst hp
  exact K.via fun t k => XS.istore X.here hx rfl hd rfl hl k
theorem Cx.istoreV (C : Cx p l e R m args below meth c Z y bytes ml ret n0 wd F T h cells slots) {k : Nat} {x : Int32} (Lf : Int32 → Array Slot) (hd : decode bytes pc = .ok (.istore k, 2)) (hp : pc + 2 = pc') (hl : ∀ v, storeLocals L k (.int v) = some (Lf v)) (K : ∀ v, v = x → Go p e below F n0 Q T (mkF m pc' (Lf v) S)) : Go p e below F n0 Q T (mkF m pc L (.int x :: S)) :=
  C.istore hd hp (hl x) (K x rfl)
theorem Cx.aloadN (C : Cx p l e R m args below meth c Z y bytes ml ret n0 wd F T h cells slots) {k : Fin 4} {v : Value} (hd : decode bytes pc = .ok (.aload_n k, 1)) (hp : pc + 1 = pc') (hl : L[k.val]? = some (.val v)) (hv : v.isRef = true) (K : Go p e below F n0 Q T (mkF m pc' L (v :: S))) : Go p e below F n0 Q T (mkF m pc L S) := by
  obtain ⟨s, locs, X, hx, rfl, -⟩ := C; subst hp
  exact K.via fun t k => XS.aloadN X.here hx rfl hd hl hv k
theorem Cx.aload (C : Cx p l e R m args below meth c Z y bytes ml ret n0 wd F T h cells slots) {k : Nat} {v : Value} (hd : decode bytes pc = .ok (.aload k, 2)) (hp : pc + 2 = pc') (hl : L[k]? = some (.val v)) (hv : v.isRef = true) (K : Go p e below F n0 Q T (mkF m pc' L (v :: S))) : Go p e below F n0 Q T (mkF m pc L S) := by
  obtain ⟨s, locs, X, hx, rfl, -⟩ := C; subst hp
  exact K.via fun t k => XS.aload X.here hx rfl hd hl hv k
theorem Cx.astore (C : Cx p l e R m args below meth c Z y bytes ml ret n0 wd F T h cells slots) {k : Nat} {x : Value} (hd : decode bytes pc = .ok (.astore k, 2)) (hp : pc + 2 = pc') (hv : x.isRef = true) (hl : storeLocals L k x = some L') (K : Go p e below F n0 Q T (mkF m pc' L' S)) : Go p e below F n0 Q T (mkF m pc L (x :: S)) := by
  obtain ⟨s, locs, X, hx, rfl, -⟩ := C; subst hp
  exact K.via fun t k => XS.astore X.here hx rfl hd rfl hv hl k
theorem Cx.iconst (C : Cx p l e R m args below meth c Z y bytes ml ret n0 wd F T h cells slots) {i : Int} (v : Int32) (hd : decode bytes pc = .ok (.iconst i, 1)) (hp : pc + 1 = pc') (hv : Int32.ofInt i = v) (K : Go p e below F n0 Q T (mkF m pc' L (.int v :: S))) : Go p e below F n0 Q T (mkF m pc L S) := by
  obtain ⟨s, locs, X, hx, rfl, -⟩ := C; subst hp
  exact K.via fun t k => XT.iconstV X.here hx rfl v hd hv k
theorem Cx.bipush (C : Cx p l e R m args below meth c Z y bytes ml ret n0 wd F T h cells slots) {i : Int} (v : Int32) (hd : decode bytes pc = .ok (.bipush i, 2)) (hp : pc + 2 = pc') (hv : (Int8.ofInt i).toInt32 = v) (K : Go p e below F n0 Q T (mkF m pc' L (.int v :: S))) : Go p e below F n0 Q T (mkF m pc L S) := by
  obtain ⟨s, locs, X, hx, rfl, -⟩ := C; subst hp
  exact K.via fun t k => XT.bipushV X.here hx rfl v hd hv k
theorem Cx.sipush (C : Cx p l e R m args below meth c Z y bytes ml ret n0 wd F T h cells slots) {i : Int} (v : Int32) (hd : decode bytes pc = .ok (.sipush i, 3)) (hp : pc + 3 = pc') (hv : (Int16.ofInt i).toInt32 = v) (K : Go p e below F n0 Q T (mkF m pc' L (.int v :: S))) : Go p e below F n0 Q T (mkF m pc L S) := by
  obtain ⟨s, locs, X, hx, rfl, -⟩ := C; subst hp
  exact K.via fun t k => XT.sipushV X.here hx rfl v hd hv k
theorem Cx.iinc (C : Cx p l e R m args below meth c Z y bytes ml ret n0 wd F T h cells slots) {k : Nat} {cst : Int} {x : Int32} (v : Int32) (hd : decode bytes pc = .ok (.iinc k cst, 3)) (hp : pc + 3 = pc') (hv : Int32.ofInt cst = v) (hl : L[k]? = some (.val (.int x))) (hl' : storeLocals L k (.int (x + v)) = some L') (K : Go p e below F n0 Q T (mkF m pc' L' S)) : Go p e below F n0 Q T (mkF m pc L S) := by
  obtain ⟨s, locs, X, hx, rfl, -⟩ := C; subst hp
  exact K.via fun t k => XT.iincV X.here hx rfl v hd hv hl hl' k
theorem Cx.isub (C : Cx p l e R m args below meth c Z y bytes ml ret n0 wd F T h cells slots) {x z : Int32} (hd : decode bytes pc = .ok (.isub, 1)) (hp : pc + 1 = pc')  (K : Go p e below F n0 Q T (mkF m pc' L (.int (x - z) :: S))) : Go p e below F n0 Q T (mkF m pc L (.int z :: .int x :: S)) := by
  obtain ⟨s, locs, X, hx, rfl, -⟩ := C; subst hp
  exact K.via fun t k => XS.isub X.here hx rfl hd rfl k
theorem Cx.iand (C : Cx p l e R m args below meth c Z y bytes ml ret n0 wd F T h cells slots) {x z : Int32} (hd : decode bytes pc = .ok (.iand, 1)) (hp : pc + 1 = pc')  (K : Go p e below F n0 Q T (mkF m pc' L (.int (x &&& z) :: S))) : Go p e below F n0 Q T (mkF m pc L (.int z :: .int x :: S)) := by
  obtain ⟨s, locs, X, hx, rfl, -⟩ := C; subst hp
  exact K.via fun t k => XS.iand X.here hx rfl hd rfl k
theorem Cx.ishr (C : Cx p l e R m args below meth c Z y bytes ml ret n0 wd F T h cells slots) {x z : Int32} (hd : decode bytes pc = .ok (.ishr, 1)) (hp : pc + 1 = pc')  (K : Go p e below F n0 Q T (mkF m pc' L (.int (x >>> (z &&& 31)) :: S))) : Go p e below F n0 Q T (mkF m pc L (.int z :: .int x :: S)) := by
  obtain ⟨s, locs, X, hx, rfl, -⟩ := C; subst hp
  exact K.via fun t k => XT.ishr X.here hx rfl hd rfl k
theorem Cx.irem (C : Cx p l e R m args below meth c Z y bytes ml ret n0 wd F T h cells slots) {x z : Int32} (hd : decode bytes pc = .ok (.irem, 1)) (hp : pc + 1 = pc') (hz : z ≠ 0) (K : Go p e below F n0 Q T (mkF m pc' L (.int (x % z) :: S))) : Go p e below F n0 Q T (mkF m pc L (.int z :: .int x :: S)) := by
  obtain ⟨s, locs, X, hx, rfl, -⟩ := C; subst hp
  exact K.via fun t k => iremM X hx rfl hd rfl hz k
theorem Cx.i2b (C : Cx p l e R m args below meth c Z y bytes ml ret n0 wd F T h cells slots) {x : Int32} (hd : decode bytes pc = .ok (.i2b, 1)) (hp : pc + 1 = pc')  (K : Go p e below F n0 Q T (mkF m pc' L (.int (x.toInt8.toInt32) :: S))) : Go p e below F n0 Q T (mkF m pc L (.int x :: S)) := by
  obtain ⟨s, locs, X, hx, rfl, -⟩ := C; subst hp
  exact K.via fun t k => XT.i2b X.here hx rfl hd rfl k
theorem Cx.dup (C : Cx p l e R m args below meth c Z y bytes ml ret n0 wd F T h cells slots) {x : Value} (hd : decode bytes pc = .ok (.dup, 1)) (hp : pc + 1 = pc') (hc : x.category = 1) (K : Go p e below F n0 Q T (mkF m pc' L (x :: x :: S))) : Go p e below F n0 Q T (mkF m pc L (x :: S)) := by
  obtain ⟨s, locs, X, hx, rfl, -⟩ := C; subst hp
  exact K.via fun t k => XS.dup X.here hx rfl hd rfl hc k
theorem Cx.goto (C : Cx p l e R m args below meth c Z y bytes ml ret n0 wd F T h cells slots) {o : Int} (hd : decode bytes pc = .ok (.goto o, 3)) (ho : 0 ≤ (pc : Int) + o) (hp : ((pc : Int) + o).toNat = pc') (K : Go p e below F n0 Q T (mkF m pc' L S)) : Go p e below F n0 Q T (mkF m pc L S) := by
  obtain ⟨s, locs, X, hx, rfl, -⟩ := C
  exact K.via fun t k => XS.goto X.here hx rfl rfl hd ho hp k
theorem Cx.icmp_eq (C : Cx p l e R m args below meth c Z y bytes ml ret n0 wd F T h cells slots) {x z : Int32} {o : Int} {py pn : Nat} (hd : decode bytes pc = .ok (.if_icmp .eq o, 3)) (ho : 0 ≤ (pc : Int) + o) (hy : ((pc : Int) + o).toNat = py) (hn : pc + 3 = pn) (K1 : x = z → Go p e below F n0 Q T (mkF m py L S)) (K2 : ¬ x = z → Go p e below F n0 Q T (mkF m pn L S)) : Go p e below F n0 Q T (mkF m pc L (.int z :: .int x :: S)) := by
  obtain ⟨s, locs, X, hx, rfl, -⟩ := C; subst hn
  by_cases q : x = z
  · exact (K1 q).via fun t k => XS.icmpYes X.here hx rfl rfl hd rfl (XT.ii_eq_t q) ho hy k
  · exact (K2 q).via fun t k => XS.icmpNo X.here hx rfl hd rfl (XT.ii_eq_f q) k
theorem Cx.if_eq (C : Cx p l e R m args below meth c Z y bytes ml ret n0 wd F T h cells slots) {x : Int32} {o : Int} {py pn : Nat} (hd : decode bytes pc = .ok (.ifCond .eq o, 3)) (ho : 0 ≤ (pc : Int) + o) (hy : ((pc : Int) + o).toNat = py) (hn : pc + 3 = pn) (K1 : x = (0 : Int32) → Go p e below F n0 Q T (mkF m py L S)) (K2 : ¬ x = (0 : Int32) → Go p e below F n0 Q T (mkF m pn L S)) : Go p e below F n0 Q T (mkF m pc L (.int x :: S)) := by
  obtain ⟨s, locs, X, hx, rfl, -⟩ := C; subst hn
  by_cases q : x = (0 : Int32)
  · exact (K1 q).via fun t k => XS.ifYes X.here hx rfl rfl hd rfl (XT.i0_eq_t q) ho hy k
  · exact (K2 q).via fun t k => XS.ifNo X.here hx rfl hd rfl (XT.i0_eq_f q) k
theorem Cx.icmp_ne (C : Cx p l e R m args below meth c Z y bytes ml ret n0 wd F T h cells slots) {x z : Int32} {o : Int} {py pn : Nat} (hd : decode bytes pc = .ok (.if_icmp .ne o, 3)) (ho : 0 ≤ (pc : Int) + o) (hy : ((pc : Int) + o).toNat = py) (hn : pc + 3 = pn) (K1 : ¬ x = z → Go p e below F n0 Q T (mkF m py L S)) (K2 : x = z → Go p e below F n0 Q T (mkF m pn L S)) : Go p e below F n0 Q T (mkF m pc L (.int z :: .int x :: S)) := by
  obtain ⟨s, locs, X, hx, rfl, -⟩ := C; subst hn
  by_cases q : x = z
  · exact (K2 q).via fun t k => XS.icmpNo X.here hx rfl hd rfl (XT.ii_ne_f q) k
  · exact (K1 q).via fun t k => XS.icmpYes X.here hx rfl rfl hd rfl (XT.ii_ne_t q) ho hy k
theorem Cx.if_ne (C : Cx p l e R m args below meth c Z y bytes ml ret n0 wd F T h cells slots) {x : Int32} {o : Int} {py pn : Nat} (hd : decode bytes pc = .ok (.ifCond .ne o, 3)) (ho : 0 ≤ (pc : Int) + o) (hy : ((pc : Int) + o).toNat = py) (hn : pc + 3 = pn) (K1 : ¬ x = (0 : Int32) → Go p e below F n0 Q T (mkF m py L S)) (K2 : x = (0 : Int32) → Go p e below F n0 Q T (mkF m pn L S)) : Go p e below F n0 Q T (mkF m pc L (.int x :: S)) := by
  obtain ⟨s, locs, X, hx, rfl, -⟩ := C; subst hn
  by_cases q : x = (0 : Int32)
  · exact (K2 q).via fun t k => XS.ifNo X.here hx rfl hd rfl (XT.i0_ne_f q) k
  · exact (K1 q).via fun t k => XS.ifYes X.here hx rfl rfl hd rfl (XT.i0_ne_t q) ho hy k
theorem Cx.icmp_lt (C : Cx p l e R m args below meth c Z y bytes ml ret n0 wd F T h cells slots) {x z : Int32} {o : Int} {py pn : Nat} (hd : decode bytes pc = .ok (.if_icmp .lt o, 3)) (ho : 0 ≤ (pc : Int) + o) (hy : ((pc : Int) + o).toNat = py) (hn : pc + 3 = pn) (K1 : x < z → Go p e below F n0 Q T (mkF m py L S)) (K2 : ¬ x < z → Go p e below F n0 Q T (mkF m pn L S)) : Go p e below F n0 Q T (mkF m pc L (.int z :: .int x :: S)) := by
  obtain ⟨s, locs, X, hx, rfl, -⟩ := C; subst hn
  by_cases q : x < z
  · exact (K1 q).via fun t k => XS.icmpYes X.here hx rfl rfl hd rfl (XT.ii_lt_t q) ho hy k
  · exact (K2 q).via fun t k => XS.icmpNo X.here hx rfl hd rfl (XT.ii_lt_f q) k
theorem Cx.icmp_ge (C : Cx p l e R m args below meth c Z y bytes ml ret n0 wd F T h cells slots) {x z : Int32} {o : Int} {py pn : Nat} (hd : decode bytes pc = .ok (.if_icmp .ge o, 3)) (ho : 0 ≤ (pc : Int) + o) (hy : ((pc : Int) + o).toNat = py) (hn : pc + 3 = pn) (K1 : ¬ x < z → Go p e below F n0 Q T (mkF m py L S)) (K2 : x < z → Go p e below F n0 Q T (mkF m pn L S)) : Go p e below F n0 Q T (mkF m pc L (.int z :: .int x :: S)) := by
  obtain ⟨s, locs, X, hx, rfl, -⟩ := C; subst hn
  by_cases q : x < z
  · exact (K2 q).via fun t k => XS.icmpNo X.here hx rfl hd rfl (XT.ii_ge_f q) k
  · exact (K1 q).via fun t k => XS.icmpYes X.here hx rfl rfl hd rfl (XT.ii_ge_t q) ho hy k
theorem Cx.icmp_gt (C : Cx p l e R m args below meth c Z y bytes ml ret n0 wd F T h cells slots) {x z : Int32} {o : Int} {py pn : Nat} (hd : decode bytes pc = .ok (.if_icmp .gt o, 3)) (ho : 0 ≤ (pc : Int) + o) (hy : ((pc : Int) + o).toNat = py) (hn : pc + 3 = pn) (K1 : z < x → Go p e below F n0 Q T (mkF m py L S)) (K2 : ¬ z < x → Go p e below F n0 Q T (mkF m pn L S)) : Go p e below F n0 Q T (mkF m pc L (.int z :: .int x :: S)) := by
  obtain ⟨s, locs, X, hx, rfl, -⟩ := C; subst hn
  by_cases q : z < x
  · exact (K1 q).via fun t k => XS.icmpYes X.here hx rfl rfl hd rfl (XT.ii_gt_t q) ho hy k
  · exact (K2 q).via fun t k => XS.icmpNo X.here hx rfl hd rfl (XT.ii_gt_f q) k
theorem Cx.icmp_le (C : Cx p l e R m args below meth c Z y bytes ml ret n0 wd F T h cells slots) {x z : Int32} {o : Int} {py pn : Nat} (hd : decode bytes pc = .ok (.if_icmp .le o, 3)) (ho : 0 ≤ (pc : Int) + o) (hy : ((pc : Int) + o).toNat = py) (hn : pc + 3 = pn) (K1 : ¬ z < x → Go p e below F n0 Q T (mkF m py L S)) (K2 : z < x → Go p e below F n0 Q T (mkF m pn L S)) : Go p e below F n0 Q T (mkF m pc L (.int z :: .int x :: S)) := by
  obtain ⟨s, locs, X, hx, rfl, -⟩ := C; subst hn
  by_cases q : z < x
  · exact (K2 q).via fun t k => XS.icmpNo X.here hx rfl hd rfl (XT.ii_le_f q) k
  · exact (K1 q).via fun t k => XS.icmpYes X.here hx rfl rfl hd rfl (XT.ii_le_t q) ho hy k
theorem Cx.done (C : Cx p l e R m args below meth c Z y bytes ml ret n0 wd F T h cells slots) {v : Option Value} (hv : ret = none → v = none) (hc : cells ≤ R.cells) (hs : slots ≤ R.slots) (hq : Q v h) {f : JFrame}
    (k : ∀ s locs fs, Stand p l e R s m args below meth c T locs cells slots → (∀ (f : JFrame) (acts : List Action), f.method = m → f.locked = none → f.entered = [] → (doReturn e (T.setTop f) acts v).1 = T.setFrames fs) → Steps p.tables e below (T.setTop f) (T.setFrames fs)) : Go p e below F n0 Q T f := by
  have hz := C.size
  obtain ⟨s, locs, X, hx, rfl, rfl, hZ, hown, hnm, rfl, hlk, rfl, N, hn, hF⟩ := C
  obtain ⟨fs, hr, hrun, hended, hW, hsame⟩ := X.leave (v := v) hv
  exact ⟨_, _, k s locs fs X hr, hrun, hended, v, locs, rfl, ⟨hq, N, hz⟩, hF _ _ _ (Nat.le_refl _) (EndF.of ⟨⟨v, rfl⟩, hW, hsame.mono hc hs⟩)⟩
theorem Cx.retI (C : Cx p l e R m args below meth c Z y bytes ml ret n0 wd F T h cells slots) {z : Int32} (hd : decode bytes pc = .ok (.ireturn, 1)) (hret : ret = some .int) (hc : cells ≤ R.cells) (hs : slots ≤ R.slots) (hq : Q (some (.int z)) h) : Go p e below F n0 Q T (mkF m pc L (.int z :: S)) := by
  refine C.done (fun q => by rw [hret] at q; cases q) hc hs hq fun s locs fs X hr => ?_
  obtain ⟨_, _, -, hx, rfl, -, -, -, -, rfl, -⟩ := C
  exact retOut X hx hret rfl (Or.inl ⟨rfl, Or.inl rfl, _, rfl⟩) hd hr
theorem Cx.retN (C : Cx p l e R m args below meth c Z y bytes ml ret n0 wd F T h cells slots) {z w : Int32} {t : FieldType} (hd : decode bytes pc = .ok (.ireturn, 1)) (hret : ret = some t) (ht : t = .boolean ∨ t = .byte ∨ t = .char ∨ t = .short) (hc : cells ≤ R.cells) (hs : slots ≤ R.slots) (hw : nar t z = w) (hq : Q (some (.int w)) h) : Go p e below F n0 Q T (mkF m pc L (.int z :: S)) := by
  subst hw
  refine C.done (fun q => by rw [hret] at q; cases q) hc hs hq fun s locs fs X hr => ?_
  obtain ⟨_, _, -, hx, rfl, -, -, -, -, rfl, -⟩ := C
  exact Jvm.RoadKit.retN X hx hret ht hd hr
theorem Cx.ldc (C : Cx p l e R m args below meth c Z y bytes ml ret n0 wd F T h cells slots) {idx : Nat} {v : Int32} (w : (Jvm.Cond.constant y.cls idx v).before a0 Z = true) (hd : decode bytes pc = .ok (.ldc idx, 2)) (hp : pc + 2 = pc') (K : Go p e below F n0 Q T (mkF m pc' L (.int v :: S))) : Go p e below F n0 Q T (mkF m pc L S) := by
  obtain ⟨s, locs, X, hx, rfl, rfl, hZ, hown, -⟩ := C; subst hp
  exact K.via fun t k => X.ldcInt hx hown (mvT hZ w) (g := mkF m pc L S) rfl hd t k
theorem Cx.callS (C : Cx p l e R m args below meth c Z y bytes ml ret n0 wd F T h cells slots) {idx : Nat} {y' : MethodName} {bytes' : ByteArray} {ml' : Nat} {ret' : Option FieldType} {R' : Room} {Q' : Option Value → Heap → Prop} {argsL : List Value} (w1 : (Jvm.Cond.methodLink y.cls idx y').before a0 Z = true) (w2 : (Jvm.Cond.static y').before a0 Z = true) (w3 : (Jvm.Cond.initialized y'.cls).before a0 Z = true) (w4 : (Jvm.Cond.code y' bytes' ml' ret').before a0 Z = true)
    (hy : y'.cls ≠ "java/lang/invoke/MethodHandle" ∧ y'.cls ≠ "java/lang/invoke/VarHandle") (M : Ctr l Z y' bytes' ml' ret' R' argsL.toArray h n0 Q') {ps : List FieldType} {rt : Option FieldType} (hpd : parseMethodDescriptor y'.desc = some ⟨ps, rt⟩) (hlen : argsL.length = ps.length)
    (W : Nat) (hf : R'.frames + 1 ≤ R.frames) (hl : W + (ml' + 11) + R'.locals ≤ R.locals) (hc : cells + R'.cells ≤ R.cells) (hs : slots + R'.slots ≤ R.slots) {rest : List Value} (hst : S = argsL.reverse ++ rest) (hsz : L.size = ml) (hW : (rest.map fun v => v.category).sum ≤ W)
    (hd : decode bytes pc = .ok (.invokestatic idx, 3)) (hp : pc + 3 = pc') (K : ∀ v T' h', Cx p l e R m args below meth c Z y bytes ml ret n0 wd F T' h' (cells + R'.cells) (slots + R'.slots) → Q' v h' → Go p e below F n0 Q T' (mkF m pc' L (v.toList ++ rest))) : Go p e below F n0 Q T (mkF m pc L S) := by
  obtain ⟨s, locs, X, hx, rfl, rfl, hZ, hown, hnm, hr, hlk, eT, N, hn, hF⟩ := C; subst hp
  obtain ⟨v, _, ⟨T', L', k', n'⟩, -, X', ⟨Lc, hQ, e1, e2, e3⟩, st⟩ := Jvm.LawKit.callS X hx (y := y') hown (mvT hZ w1) (mvT hZ w2) (mvT hZ w3) (mvT hZ w4) hy (backOf (W := W) (Q := fun v h9 L => (Q' v h9 ∧ h.size ≤ h9.size) ∧ Fr n0 L) (M []) hZ w4 w3 hf hl) (g := mkF m pc L S) rfl hsz (argsL := argsL) (rest := rest) (lenOf hpd hlen) hst (by show 2 * 0 + _ ≤ _; omega) hd (fun _ _ => ⟨rfl, eT, hc, hs⟩)
  dsimp only [Pt.U, Pt.locs, Pt.cells, Pt.slots] at X' e1 e2 e3 st hQ
  subst e1 e2 e3
  exact (K v T' T'.heap ⟨s, _, X', hx, rfl, rfl, hZ, hown, hnm, hr, hlk, rfl, N.app hQ.2, hn, fun o t L q => hF o t L (Nat.le_trans hQ.1.2 q)⟩ hQ.1.1).via st
theorem Cx.new (C : Cx p l e R m args below meth c Z y bytes ml ret n0 wd F T h cells slots) {idx n : Nat} {Cl : String} (w : (Jvm.Cond.classLink y.cls idx Cl).before a0 Z = true) (wi : (Jvm.Cond.instantiable Cl n).before a0 Z = true) (wz : (Jvm.Cond.initialized Cl).before a0 Z = true) (hd : decode bytes pc = .ok (.new idx, 3)) (hp : pc + 3 = pc') (hc : cells + 1 ≤ R.cells) (hl : slots + n ≤ R.slots)
    (K : ∀ T' h' b, Cx p l e R m args below meth c Z y bytes ml ret n0 wd F T' h' (cells + 1) (slots + n) → b = h.size → n0 ≤ b → Ext h h' → Exa Z h' b Cl → (∀ {O nm d : String} {ty : FieldType}, Laid Z a0 Cl O nm d → parseFieldDescriptor d = some ty → Fld Z h' b O nm d (defaultValue ty)) → Go p e below F n0 Q T' (mkF m pc' L (.ref b :: S))) : Go p e below F n0 Q T (mkF m pc L S) := by
  have hz := C.size
  obtain ⟨s, locs, X, hx, rfl, rfl, hZ, hown, hnm, hr, hlk, eT, N, hn, hF⟩ := C; subst hp
  obtain ⟨T', h', X', e', E, A, D, -, st⟩ := newO X hx hZ hown w wi wz eT (g := mkF m pc L S) rfl hd hc hl
  exact (K T' h' h.size ⟨s, locs, X', hx, rfl, rfl, hZ, hown, hnm, hr, hlk, e', N, hn, fun o t L q => hF o t L (Nat.le_trans E.1 q)⟩ rfl hz E A D).via st
theorem Cx.getS (C : Cx p l e R m args below meth c Z y bytes ml ret n0 wd F T h cells slots) {idx : Nat} {R0 O n d host : String} {v : Value} (w : (Jvm.Cond.fieldLink y.cls idx R0 n d).before a0 Z = true ∨ (Jvm.Cond.fieldLinkNest y.cls idx R0 n d host).before a0 Z = true) (via : Via Z R0 O n d) (Fd : Sta Z h O n d v) (hd : decode bytes pc = .ok (.getstatic idx, 3)) (hp : pc + 3 = pc')
    (K : ∀ T', Cx p l e R m args below meth c Z y bytes ml ret n0 wd F T' h cells slots → Go p e below F n0 Q T' (mkF m pc' L (v :: S))) : Go p e below F n0 Q T (mkF m pc L S) := by
  obtain ⟨s, locs, X, hx, rfl, rfl, hZ, hown, hnm, hr, hlk, eT, N, hn, hF⟩ := C; subst hp
  obtain ⟨T', X', e', st⟩ := getS2 X hx hZ hown w via eT Fd (g := mkF m pc L S) rfl hd
  exact (K T' ⟨s, locs, X', hx, rfl, rfl, hZ, hown, hnm, hr, hlk, e', N, hn, hF⟩).via st
theorem Cx.newarr (C : Cx p l e R m args below meth c Z y bytes ml ret n0 wd F T h cells slots) {aty : ArrayType} (w : (Jvm.Cond.arrayClass (newarray.typeOf aty)).before a0 Z = true) {n : Int32} (cap : Nat) (hn0 : ¬ n < 0) (hcap : n.toNatClampNeg ≤ cap) (hb : cap * 8 ≤ 536870912) (hc : cells + 1 ≤ R.cells) (hl : slots + cap ≤ R.slots) (hd : decode bytes pc = .ok (.newarray aty, 2)) (hp : pc + 2 = pc')
    (K : ∀ T' h' b k, Cx p l e R m args below meth c Z y bytes ml ret n0 wd F T' h' (cells + 1) (slots + cap) → b = h.size → n0 ≤ b → Ext h h' → Arv Z h' b k (newarray.typeOf aty) n (List.replicate cap (defaultValue (newarray.typeOf aty))) (defaultValue (newarray.typeOf aty)) → Go p e below F n0 Q T' (mkF m pc' L (.ref b :: S))) : Go p e below F n0 Q T (mkF m pc L (.int n :: S)) := by
  have hz := C.size
  obtain ⟨s, locs, X, hx, rfl, rfl, hZ, hown, hnm, hr, hlk, eT, N, hn, hF⟩ := C; subst hp
  obtain ⟨T', h', cA, X', e', E, A, st⟩ := newP X hx hZ w eT (g := mkF m pc L (.int n :: S)) rfl hd rfl hn0 (cap := cap) hcap hb hc hl
  exact (K T' h' h.size cA ⟨s, locs, X', hx, rfl, rfl, hZ, hown, hnm, hr, hlk, e', N, hn, fun o t L q => hF o t L (Nat.le_trans E.1 q)⟩ rfl hz E ((Arv.new A hn0).pad (pad_rep [] _ cap))).via st
theorem Cx.bastore (C : Cx p l e R m args below meth c Z y bytes ml ret n0 wd F T h cells slots) {a : Addr} {k : ClassId} {n j : Int32} {x : Int32} {vs : List Value} {dv : Value} (A : Arv Z h a k .byte n vs dv) (hj : ¬ j < 0 ∧ j < n) (hlen : j.toNatClampNeg < vs.length) (g : n0 ≤ a) (hd : decode bytes pc = .ok (.bastore, 1)) (hp : pc + 1 = pc')
    (K : ∀ T' h', Cx p l e R m args below meth c Z y bytes ml ret n0 wd F T' h' cells slots → Wr h h' a j.toNatClampNeg (.int (nar .byte x)) → Arv Z h' a k .byte n (vs.set j.toNatClampNeg (.int (nar .byte x))) dv → Go p e below F n0 Q T' (mkF m pc' L S)) : Go p e below F n0 Q T (mkF m pc L (.int x :: .int j :: .ref a :: S)) := by
  obtain ⟨s, locs, X, hx, rfl, rfl, hZ, hown, hnm, hr, hlk, eT, N, hn, hF⟩ := C; subst hp
  obtain ⟨cl, Ar, q1, Sz, q3, H, G⟩ := A
  obtain ⟨T', h', X', e', W, st⟩ := stB X hx hZ eT Ar (j := j) (inb_of Sz hj) (g := mkF m pc L (.int x :: .int j :: .ref a :: S)) rfl rfl hd
  exact (K T' h' ⟨s, _, X', hx, rfl, rfl, hZ, hown, hnm, hr, hlk, e', Fr.snoc X' N g, hn, fun o t L q => hF o t L (W.size ▸ q)⟩ W (Arv.set Ar q1 Sz q3 H G (fits_nar_byte _) W _ rfl hlen)).via st
theorem Cx.baload (C : Cx p l e R m args below meth c Z y bytes ml ret n0 wd F T h cells slots) {a : Addr} {k : ClassId} {n j : Int32} {v : Int32} {vs : List Value} {dv : Value} (A : Arv Z h a k .byte n vs dv) (hj : ¬ j < 0 ∧ j < n) (hv : vs.getD j.toNatClampNeg dv = .int v) (hd : decode bytes pc = .ok (.baload, 1)) (hp : pc + 1 = pc') (K : Go p e below F n0 Q T (mkF m pc' L (.int v :: S))) : Go p e below F n0 Q T (mkF m pc L (.int j :: .ref a :: S)) := by
  obtain ⟨s, locs, X, hx, rfl, rfl, hZ, hown, hnm, hr, hlk, eT, N, hn, hF⟩ := C; subst hp
  obtain ⟨cl, Ar, q1, Sz, q3, H, G⟩ := A
  exact K.via fun t k => X.baloadBytes hx (j := j) (by rw [eT]; exact Ar.1) (State.isArrayOf_alike hZ.alike Ar.2.1) Ar.2.2 (inb_of Sz hj) (H.at (inb_of Sz hj) hv) (g := mkF m pc L (.int j :: .ref a :: S)) rfl rfl hd t k
theorem Cx.zaload (C : Cx p l e R m args below meth c Z y bytes ml ret n0 wd F T h cells slots) {a : Addr} {k : ClassId} {n j : Int32} {v : Int32} {vs : List Value} {dv : Value} (A : Arv Z h a k .boolean n vs dv) (hj : ¬ j < 0 ∧ j < n) (hv : vs.getD j.toNatClampNeg dv = .int v) (hd : decode bytes pc = .ok (.baload, 1)) (hp : pc + 1 = pc') (K : Go p e below F n0 Q T (mkF m pc' L (.int v :: S))) : Go p e below F n0 Q T (mkF m pc L (.int j :: .ref a :: S)) := by
  obtain ⟨s, locs, X, hx, rfl, rfl, hZ, hown, hnm, hr, hlk, eT, N, hn, hF⟩ := C; subst hp
  obtain ⟨cl, Ar, q1, Sz, q3, H, G⟩ := A
  exact K.via fun t k => X.baloadBooleans hx (j := j) (by rw [eT]; exact Ar.1) (State.isArrayOf_alike hZ.alike Ar.2.1) Ar.2.2 (inb_of Sz hj) (H.at (inb_of Sz hj) hv) (g := mkF m pc L (.int j :: .ref a :: S)) rfl rfl hd t k
end Layer
end Jvm.Ow
namespace Jvm.Pilot.@@N@@
open Jvm Jvm.ClassFile Sem Op Lib Jvm.Free Jvm.Stand Jvm.LawKit Jvm.RoadKit Bundle Jvm.Ow Jvm.Pilot.@@N@@.Jvm.D
theorem own_narb (x : Int32) : nar .byte x.toInt8.toInt32 = x.toInt8.toInt32 := by
  show x.toInt8.toInt32.toInt8.toInt32 = _; simp
theorem own_getI (l : List Int32) (i : Nat) : (l.map Value.int).getD i (.int 0) = .int (l.getD i 0) := by
  simp only [List.getD_eq_getElem?_getD, List.getElem?_map]; cases l[i]? <;> rfl
theorem own_getJ (l : List Int64) (i : Nat) : (l.map Value.long).getD i (.long 0) = .long (l.getD i 0) := by
  simp only [List.getD_eq_getElem?_getD, List.getElem?_map]; cases l[i]? <;> rfl
theorem own_eqite {α : Type} {P : Prop} [Decidable P] {u a b : α} : (u = if P then a else b) ↔ ((P ∧ u = a) ∨ (¬ P ∧ u = b)) := by by_cases h : P <;> simp [h]
theorem own_iteeq {α : Type} {P : Prop} [Decidable P] {u a b : α} : ((if P then a else b) = u) ↔ ((P ∧ a = u) ∨ (¬ P ∧ b = u)) := by by_cases h : P <;> simp [h]
def own_sp (i : Int32) : Int32 := if i = (9 : Int32) then 1 else if i = (32 : Int32) then 1 else 0
def own_spl : List Value := (List.range 256).map fun j => .int (own_sp (Nat.toInt32 j))
theorem own_spi {k : Nat} {sd : Value} (h : k < 256) : own_spl.getD k sd = .int (own_sp (Nat.toInt32 k)) := by
  simp only [own_spl, List.getD_eq_getElem?_getD, List.getElem?_map, List.getElem?_range h]; rfl
theorem own_ti {k : Nat} (h : k < 256) : (Nat.toInt32 k).toInt = k := len_toInt (Nat.lt_trans h (by decide))
theorem own_tc {k : Nat} (h : k < 256) : (Nat.toInt32 k).toNatClampNeg = k := by
  simp only [Int32.toNatClampNeg, own_ti h]; rfl
theorem own_spg {j : Int32} {sd : Value} (h : ¬ j < (0 : Int32) ∧ j < (256 : Int32)) : own_spl.getD j.toNatClampNeg sd = .int (own_sp j) := by
  simp only [Int32.lt_iff_toInt_lt, Int32.reduceToInt] at h
  have e : j.toNatClampNeg < 256 := by simp only [Int32.toNatClampNeg]; omega
  rw [own_spi e]
  have e2 : Nat.toInt32 j.toNatClampNeg = j := by
    rw [← Int32.toInt_inj, own_ti e]; simp only [Int32.toNatClampNeg]; omega
  rw [e2]
theorem own_orf {P : Prop} [Decidable P] {args : Array Value} {first s : State} {o : Option Outcome} {idx : List Nat} {c d : Cond} (h : (Cond.or c d).value args first o s idx = some true) (h1 : c.value args first o s idx = some (decide P)) (hP : ¬ P) : d.value args first o s idx = some true := by
  simp only [Cond.value, h1, decide_eq_false hP] at h; exact h
theorem own_eqv {t : Term} {z : Int32} {args : Array Value} {first s : State} {o : Option Outcome} {idx : List Nat} (h : (Cond.eq t (.int z)).value args first o s idx = some true) : t.eval args first o idx s = some (.int z) := by
  simp only [Cond.value, Term.eval] at h
  cases ht : t.eval args first o idx s with
  | none => simp [ht] at h
  | some x => cases x <;> simp [ht] at h ⊢; exact h
theorem own_len {t : Term} {z : Int32} {args : Array Value} {first s : State} {o : Option Outcome} {idx : List Nat} {x : Addr} {cl : Cell} (h : (Term.length t).eval args first o idx s = some (.int z)) (ht : t.eval args first o idx s = some (.ref x)) (ha : s.arrayAt? x = some cl) : cl.slots.size < 2 ^ 31 ∧ cl.slots.size.toInt32 = z := by
  simp only [Term.eval, ht, ha, Option.bind_eq_bind, Option.bind_some] at h
  split at h
  · rename_i q; exact ⟨q, by simpa using h⟩
  · cases h
theorem own_space {Z : State} {args : Array Value} {HF : String}
    (hi : (Cond.initialized HF).before args Z = true) (hl : (Cond.laysStatic HF "SPACE" "[Z").before args Z = true)
    (g1 : (Cond.arrayOf (Term.static HF "SPACE" "[Z") .boolean).value args Z none Z [] = some true)
    (g2 : (Cond.eq (Term.length (Term.static HF "SPACE" "[Z")) (Term.int (256 : Int32))).value args Z none Z [] = some true)
    (g3 : (Cond.all (Term.static HF "SPACE" "[Z") (Cond.or (Cond.le (Term.int (9 : Int32)) (Term.index 0)) (Cond.eq (Term.elem (Term.static HF "SPACE" "[Z") (Term.index 0)) (Term.int (0 : Int32))))).value args Z none Z [] = some true)
    (g4 : (Cond.eq (Term.elem (Term.static HF "SPACE" "[Z") (Term.int (9 : Int32))) (Term.int (1 : Int32))).value args Z none Z [] = some true)
    (g5 : (Cond.all (Term.static HF "SPACE" "[Z") (Cond.or (Cond.lt (Term.index 0) (Term.int (10 : Int32))) (Cond.or (Cond.le (Term.int (32 : Int32)) (Term.index 0)) (Cond.eq (Term.elem (Term.static HF "SPACE" "[Z") (Term.index 0)) (Term.int (0 : Int32)))))).value args Z none Z [] = some true)
    (g6 : (Cond.eq (Term.elem (Term.static HF "SPACE" "[Z") (Term.int (32 : Int32))) (Term.int (1 : Int32))).value args Z none Z [] = some true)
    (g7 : (Cond.all (Term.static HF "SPACE" "[Z") (Cond.or (Cond.lt (Term.index 0) (Term.int (33 : Int32))) (Cond.eq (Term.elem (Term.static HF "SPACE" "[Z") (Term.index 0)) (Term.int (0 : Int32))))).value args Z none Z [] = some true) :
    ∃ sa sk sd, Sta Z Z.heap HF "SPACE" "[Z" (.ref sa) ∧ Arv Z Z.heap sa sk .boolean (256 : Int32) own_spl sd := by
  obtain ⟨sa, ev⟩ := arr_v g1
  obtain ⟨c, A⟩ := Arr.start ev g1
  have hat : Z.arrayAt? sa = some c := A.fin (Vm.Alike.refl _)
  have el : c.slots.size = 256 := by
    obtain ⟨q1, q2⟩ := own_len (own_eqv g2) ev hat
    have q3 := len_toInt q1
    rw [q2, show (256 : Int32).toInt = 256 from rfl] at q3; omega
  have key : ∀ k, k < 256 → c.slots[k]? = some (.int (own_sp (Nat.toInt32 k))) := by
    intro k hk
    have evk : (Term.static HF "SPACE" "[Z").eval args Z none [k] Z = some (.ref sa) := ev
    have ein : ∀ z : Int32, (Cond.eq (Term.elem (Term.static HF "SPACE" "[Z") (Term.index 0)) (Term.int z)).value args Z none Z [k] = some true → c.slots[k]? = some (.int z) := by
      intro z hz
      have q := (elem_in (j := Nat.toInt32 k) (own_eqv hz) evk rfl A.1).2
      rwa [own_tc hk] at q
    have ex : ∀ (j : Int32), (Cond.eq (Term.elem (Term.static HF "SPACE" "[Z") (Term.int j)) (Term.int 1)).value args Z none Z [] = some true → c.slots[j.toNatClampNeg]? = some (.int 1) := by
      intro j hz
      exact (elem_in (own_eqv hz) ev rfl A.1).2
    have tk := own_ti hk
    have i0 : (Term.index 0).eval args Z none [k] Z = some (.int (Nat.toInt32 k)) := rfl
    have ii : ∀ z : Int32, (Term.int z).eval args Z none [k] Z = some (.int z) := fun _ => rfl
    by_cases h9 : k = 9
    · subst h9; exact ex 9 g4
    by_cases h32 : k = 32
    · subst h32; exact ex 32 g6
    have e0 : own_sp (Nat.toInt32 k) = 0 := by
      have n9 : ¬ Nat.toInt32 k = (9 : Int32) := by rw [← Int32.toInt_inj, tk]; simp only [Int32.reduceToInt]; omega
      have n32 : ¬ Nat.toInt32 k = (32 : Int32) := by rw [← Int32.toInt_inj, tk]; simp only [Int32.reduceToInt]; omega
      rw [own_sp, if_neg n9, if_neg n32]
    rw [e0]
    have hk' : k < c.slots.size := by omega
    by_cases a : k < 9
    · exact ein 0 (own_orf (Cond.all_elim ev hat g3 k hk') (Cond.le_ints (ii 9) i0) (by rw [Int32.le_iff_toInt_le, tk]; simp only [Int32.reduceToInt]; omega))
    by_cases b : k < 32
    · exact ein 0 (own_orf (own_orf (Cond.all_elim ev hat g5 k hk') (Cond.lt_ints i0 (ii 10)) (by rw [Int32.lt_iff_toInt_lt, tk]; simp only [Int32.reduceToInt]; omega)) (Cond.le_ints (ii 32) i0) (by rw [Int32.le_iff_toInt_le, tk]; simp only [Int32.reduceToInt]; omega))
    · exact ein 0 (own_orf (Cond.all_elim ev hat g7 k hk') (Cond.lt_ints i0 (ii 33)) (by rw [Int32.lt_iff_toInt_lt, tk]; simp only [Int32.reduceToInt]; omega))
  refine ⟨sa, c.cls, .null, Sta.start ev (Or.inr ⟨hi, hl⟩), c, A, rfl, el, by decide, fun k hk => ?_, fun k hk => ?_⟩
  · rw [el] at hk; rw [own_spi hk]; exact key k hk
  · rw [el] at hk; rw [own_spi hk]
    simp only [own_sp]
    repeat' split
    all_goals rfl
def loopT (g : Int32 → Int32) : Nat → Int32 → Int32
  | 0, i => i
  | k + 1, i => if own_sp (g (i - (1 : Int32)) &&& (255 : Int32)) = (0 : Int32) then i else loopT g k (i + (-1 : Int32))

def f1 (i0 : Int32) : Int32 := if (i0 &&& (3 : Int32)) = (0 : Int32) then (32 : Int32) else (if (i0 &&& (3 : Int32)) = (1 : Int32) then (9 : Int32) else (((i0 >>> ((2 : Int32) &&& 31)).toInt8.toInt32)))
theorem pn1 : plainName "com/example/leeway/leeway/service/HeaderFieldsTrimmedEndPinLaw" = true := by first | (simp [plainName, overriddenIn]; done) | decide +kernel
theorem pd1 : parseMethodDescriptor "(I)B" = some ⟨[.int], some .byte⟩ := by decide +kernel
theorem ef1 (m : MethodId) (i0 : Int32) : entryFrame m #[(.int i0)] 2 = mkF m 0 #[.val (.int i0), .unset] [] := by first | (simp [entryFrame, mkF, argsToLocals, Value.category]; done) | rfl
theorem d1_0 : decode method_2_code 0 = .ok (.iload_n 0, 1) := by decide +kernel
theorem d1_1 : decode method_2_code 1 = .ok (.iconst 3, 1) := by decide +kernel
theorem d1_2 : decode method_2_code 2 = .ok (.iand, 1) := by decide +kernel
theorem d1_3 : decode method_2_code 3 = .ok (.istore_n 1, 1) := by decide +kernel
theorem d1_4 : decode method_2_code 4 = .ok (.iload_n 1, 1) := by decide +kernel
theorem d1_5 : decode method_2_code 5 = .ok (.ifCond .ne 6, 3) := by decide +kernel
theorem d1_8 : decode method_2_code 8 = .ok (.bipush 32, 2) := by decide +kernel
theorem d1_10 : decode method_2_code 10 = .ok (.ireturn, 1) := by decide +kernel
theorem d1_11 : decode method_2_code 11 = .ok (.iload_n 1, 1) := by decide +kernel
theorem d1_12 : decode method_2_code 12 = .ok (.iconst 1, 1) := by decide +kernel
theorem d1_13 : decode method_2_code 13 = .ok (.if_icmp .ne 6, 3) := by decide +kernel
theorem d1_16 : decode method_2_code 16 = .ok (.bipush 9, 2) := by decide +kernel
theorem d1_18 : decode method_2_code 18 = .ok (.ireturn, 1) := by decide +kernel
theorem d1_19 : decode method_2_code 19 = .ok (.iload_n 0, 1) := by decide +kernel
theorem d1_20 : decode method_2_code 20 = .ok (.iconst 2, 1) := by decide +kernel
theorem d1_21 : decode method_2_code 21 = .ok (.ishr, 1) := by decide +kernel
theorem d1_22 : decode method_2_code 22 = .ok (.i2b, 1) := by decide +kernel
theorem d1_23 : decode method_2_code 23 = .ok (.ireturn, 1) := by decide +kernel
set_option maxRecDepth 65536 in
set_option maxHeartbeats 40000000 in
theorem rm1 (l : Launch) (Z : State) (a0 : Array Value) (hw : ∀ d ∈ tables_1, d.before a0 Z = true) (i0 : Int32) (h0 : Heap) (n0 : Nat) (Z0 : n0 ≤ h0.size) :
    Ctr l Z (⟨"com/example/leeway/leeway/service/HeaderFieldsTrimmedEndPinLaw", "draw", "(I)B"⟩ : MethodName) method_2_code 2 (some .byte) ({ frames := 0, cells := 0, slots := 0, locals := 0 } : Room) #[(.int i0)] h0 n0 (fun v h' => v = some (.int (f1 i0)) ∧ h' = h0) := by
  refine Ctr.body (L := #[.val (.int i0), .unset]) (plainFor_of_name pn1) Z0 (fun m => ef1 m i0) ?_
  intro p e F m below meth c T0 C0
  refine C0.iloadN d1_0 rfl rfl ?_
  refine C0.iconst (3 : Int32) d1_1 rfl rfl ?_
  refine C0.iand d1_2 rfl ?_
  refine C0.istoreN d1_3 rfl (L' := #[.val (.int i0), .val (.int (i0 &&& (3 : Int32)))]) rfl ?_
  refine C0.iloadN d1_4 rfl rfl ?_
  refine C0.if_ne d1_5 (by decide) (by decide : _ = 11) rfl (fun c5 => ?_) (fun c5 => ?_)
  · refine C0.iloadN d1_11 rfl rfl ?_
    refine C0.iconst (1 : Int32) d1_12 rfl rfl ?_
    refine C0.icmp_ne d1_13 (by decide) (by decide : _ = 19) rfl (fun c13 => ?_) (fun c13 => ?_)
    · refine C0.iloadN d1_19 rfl rfl ?_
      refine C0.iconst (2 : Int32) d1_20 rfl rfl ?_
      refine C0.ishr d1_21 rfl ?_
      refine C0.i2b d1_22 rfl ?_
      exact C0.retN (t := .byte) d1_23 rfl (by simp) (by decide) (by decide) (w := ((i0 >>> ((2 : Int32) &&& 31)).toInt8.toInt32)) (own_narb _) ⟨by rw [f1, if_neg c5, if_neg c13], rfl⟩
    · refine C0.bipush (9 : Int32) d1_16 rfl rfl ?_
      exact C0.retN (t := .byte) d1_18 rfl (by simp) (by decide) (by decide) (w := (9 : Int32)) rfl ⟨by rw [f1, if_neg c5, if_pos c13], rfl⟩
  · refine C0.bipush (32 : Int32) d1_8 rfl rfl ?_
    exact C0.retN (t := .byte) d1_10 rfl (by simp) (by decide) (by decide) (w := (32 : Int32)) rfl ⟨by rw [f1, if_pos c5], rfl⟩
def f5 (i0 : Int32) : Int32 := if (i0 &&& (255 : Int32)) = (32 : Int32) then (1 : Int32) else (if (i0 &&& (255 : Int32)) = (9 : Int32) then (1 : Int32) else ((0 : Int32)))
theorem pn5 : plainName "com/example/leeway/leeway/service/HeaderFieldsTrimmedEndPinLaw" = true := by first | (simp [plainName, overriddenIn]; done) | decide +kernel
theorem pd5 : parseMethodDescriptor "(B)Z" = some ⟨[.byte], some .boolean⟩ := by decide +kernel
theorem ef5 (m : MethodId) (i0 : Int32) : entryFrame m #[(.int i0)] 2 = mkF m 0 #[.val (.int i0), .unset] [] := by first | (simp [entryFrame, mkF, argsToLocals, Value.category]; done) | rfl
theorem d5_0 : decode method_3_code 0 = .ok (.iload_n 0, 1) := by decide +kernel
theorem d5_1 : decode method_3_code 1 = .ok (.sipush 255, 3) := by decide +kernel
theorem d5_4 : decode method_3_code 4 = .ok (.iand, 1) := by decide +kernel
theorem d5_5 : decode method_3_code 5 = .ok (.istore_n 1, 1) := by decide +kernel
theorem d5_6 : decode method_3_code 6 = .ok (.iload_n 1, 1) := by decide +kernel
theorem d5_7 : decode method_3_code 7 = .ok (.bipush 32, 2) := by decide +kernel
theorem d5_9 : decode method_3_code 9 = .ok (.if_icmp .eq 9, 3) := by decide +kernel
theorem d5_12 : decode method_3_code 12 = .ok (.iload_n 1, 1) := by decide +kernel
theorem d5_13 : decode method_3_code 13 = .ok (.bipush 9, 2) := by decide +kernel
theorem d5_15 : decode method_3_code 15 = .ok (.if_icmp .ne 7, 3) := by decide +kernel
theorem d5_18 : decode method_3_code 18 = .ok (.iconst 1, 1) := by decide +kernel
theorem d5_19 : decode method_3_code 19 = .ok (.goto 4, 3) := by decide +kernel
theorem d5_22 : decode method_3_code 22 = .ok (.iconst 0, 1) := by decide +kernel
theorem d5_23 : decode method_3_code 23 = .ok (.ireturn, 1) := by decide +kernel
set_option maxRecDepth 65536 in
set_option maxHeartbeats 40000000 in
theorem rm5 (l : Launch) (Z : State) (a0 : Array Value) (hw : ∀ d ∈ tables_1, d.before a0 Z = true) (i0 : Int32) (h0 : Heap) (n0 : Nat) (Z0 : n0 ≤ h0.size) :
    Ctr l Z (⟨"com/example/leeway/leeway/service/HeaderFieldsTrimmedEndPinLaw", "sp", "(B)Z"⟩ : MethodName) method_3_code 2 (some .boolean) ({ frames := 0, cells := 0, slots := 0, locals := 0 } : Room) #[(.int i0)] h0 n0 (fun v h' => v = some (.int (f5 i0)) ∧ h' = h0) := by
  refine Ctr.body (L := #[.val (.int i0), .unset]) (plainFor_of_name pn5) Z0 (fun m => ef5 m i0) ?_
  intro p e F m below meth c T0 C0
  refine C0.iloadN d5_0 rfl rfl ?_
  refine C0.sipush (255 : Int32) d5_1 rfl rfl ?_
  refine C0.iand d5_4 rfl ?_
  refine C0.istoreN d5_5 rfl (L' := #[.val (.int i0), .val (.int (i0 &&& (255 : Int32)))]) rfl ?_
  refine C0.iloadN d5_6 rfl rfl ?_
  refine C0.bipush (32 : Int32) d5_7 rfl rfl ?_
  refine C0.icmp_eq d5_9 (by decide) (by decide : _ = 18) rfl (fun c9 => ?_) (fun c9 => ?_)
  · refine C0.iconst (1 : Int32) d5_18 rfl rfl ?_
    refine C0.goto d5_19 (by decide) (by decide : _ = 23) ?_
    exact C0.retN (t := .boolean) d5_23 rfl (by simp) (by decide) (by decide) (w := (1 : Int32)) rfl ⟨by rw [f5, if_pos c9], rfl⟩
  · refine C0.iloadN d5_12 rfl rfl ?_
    refine C0.bipush (9 : Int32) d5_13 rfl rfl ?_
    refine C0.icmp_ne d5_15 (by decide) (by decide : _ = 22) rfl (fun c15 => ?_) (fun c15 => ?_)
    · refine C0.iconst (0 : Int32) d5_22 rfl rfl ?_
      exact C0.retN (t := .boolean) d5_23 rfl (by simp) (by decide) (by decide) (w := (0 : Int32)) rfl ⟨by rw [f5, if_neg c9, if_neg c15], rfl⟩
    · refine C0.iconst (1 : Int32) d5_18 rfl rfl ?_
      refine C0.goto d5_19 (by decide) (by decide : _ = 23) ?_
      exact C0.retN (t := .boolean) d5_23 rfl (by simp) (by decide) (by decide) (w := (1 : Int32)) rfl ⟨by rw [f5, if_neg c9, if_pos c15], rfl⟩
def f2 (i0 : Int32) (i1 : Int32) : Int32 := if i1 < i0 then i1 else (i0)
theorem pd2 : parseMethodDescriptor "(II)I" = some ⟨[.int, .int], some .int⟩ := by decide +kernel
theorem ef2 (m : MethodId) (i0 : Int32) (i1 : Int32) : entryFrame m #[(.int i0), (.int i1)] 2 = mkF m 0 #[.val (.int i0), .val (.int i1)] [] := by first | (simp [entryFrame, mkF, argsToLocals, Value.category]; done) | rfl
theorem d2_0 : decode jdk_29_method_69_code 0 = .ok (.iload_n 0, 1) := by decide +kernel
theorem d2_1 : decode jdk_29_method_69_code 1 = .ok (.iload_n 1, 1) := by decide +kernel
theorem d2_2 : decode jdk_29_method_69_code 2 = .ok (.if_icmp .gt 7, 3) := by decide +kernel
theorem d2_5 : decode jdk_29_method_69_code 5 = .ok (.iload_n 0, 1) := by decide +kernel
theorem d2_6 : decode jdk_29_method_69_code 6 = .ok (.goto 4, 3) := by decide +kernel
theorem d2_9 : decode jdk_29_method_69_code 9 = .ok (.iload_n 1, 1) := by decide +kernel
theorem d2_10 : decode jdk_29_method_69_code 10 = .ok (.ireturn, 1) := by decide +kernel
set_option maxRecDepth 65536 in
set_option maxHeartbeats 40000000 in
theorem rm2 (l : Launch) (Z : State) (a0 : Array Value) (hw : ∀ d ∈ tables_1, d.before a0 Z = true) (i0 : Int32) (i1 : Int32) (h0 : Heap) (n0 : Nat) (Z0 : n0 ≤ h0.size) :
    Ctr l Z (⟨"java/lang/Math", "min", "(II)I"⟩ : MethodName) jdk_29_method_69_code 2 (some .int) ({ frames := 0, cells := 0, slots := 0, locals := 0 } : Room) #[(.int i0), (.int i1)] h0 n0 (fun v h' => v = some (.int (f2 i0 i1)) ∧ h' = h0) := by
  refine Ctr.body (L := #[.val (.int i0), .val (.int i1)]) (Jvm.Free.JP.mathPlain rfl (by decide +kernel)) Z0 (fun m => ef2 m i0 i1) ?_
  intro p e F m below meth c T0 C0
  refine C0.iloadN d2_0 rfl rfl ?_
  refine C0.iloadN d2_1 rfl rfl ?_
  refine C0.icmp_gt d2_2 (by decide) (by decide : _ = 9) rfl (fun c2 => ?_) (fun c2 => ?_)
  · refine C0.iloadN d2_9 rfl rfl ?_
    exact C0.retI d2_10 rfl (by decide) (by decide) ⟨by rw [f2, if_pos c2], rfl⟩
  · refine C0.iloadN d2_5 rfl rfl ?_
    refine C0.goto d2_6 (by decide) (by decide : _ = 10) ?_
    exact C0.retI d2_10 rfl (by decide) (by decide) ⟨by rw [f2, if_neg c2], rfl⟩
def f3 (i0 : Int32) (i1 : Int32) : Int32 := if i0 < i1 then i1 else (i0)
theorem pd3 : parseMethodDescriptor "(II)I" = some ⟨[.int, .int], some .int⟩ := by decide +kernel
theorem ef3 (m : MethodId) (i0 : Int32) (i1 : Int32) : entryFrame m #[(.int i0), (.int i1)] 2 = mkF m 0 #[.val (.int i0), .val (.int i1)] [] := by first | (simp [entryFrame, mkF, argsToLocals, Value.category]; done) | rfl
theorem d3_0 : decode jdk_29_method_65_code 0 = .ok (.iload_n 0, 1) := by decide +kernel
theorem d3_1 : decode jdk_29_method_65_code 1 = .ok (.iload_n 1, 1) := by decide +kernel
theorem d3_2 : decode jdk_29_method_65_code 2 = .ok (.if_icmp .lt 7, 3) := by decide +kernel
theorem d3_5 : decode jdk_29_method_65_code 5 = .ok (.iload_n 0, 1) := by decide +kernel
theorem d3_6 : decode jdk_29_method_65_code 6 = .ok (.goto 4, 3) := by decide +kernel
theorem d3_9 : decode jdk_29_method_65_code 9 = .ok (.iload_n 1, 1) := by decide +kernel
theorem d3_10 : decode jdk_29_method_65_code 10 = .ok (.ireturn, 1) := by decide +kernel
set_option maxRecDepth 65536 in
set_option maxHeartbeats 40000000 in
theorem rm3 (l : Launch) (Z : State) (a0 : Array Value) (hw : ∀ d ∈ tables_1, d.before a0 Z = true) (i0 : Int32) (i1 : Int32) (h0 : Heap) (n0 : Nat) (Z0 : n0 ≤ h0.size) :
    Ctr l Z (⟨"java/lang/Math", "max", "(II)I"⟩ : MethodName) jdk_29_method_65_code 2 (some .int) ({ frames := 0, cells := 0, slots := 0, locals := 0 } : Room) #[(.int i0), (.int i1)] h0 n0 (fun v h' => v = some (.int (f3 i0 i1)) ∧ h' = h0) := by
  refine Ctr.body (L := #[.val (.int i0), .val (.int i1)]) (Jvm.Free.JP.mathPlain rfl (by decide +kernel)) Z0 (fun m => ef3 m i0 i1) ?_
  intro p e F m below meth c T0 C0
  refine C0.iloadN d3_0 rfl rfl ?_
  refine C0.iloadN d3_1 rfl rfl ?_
  refine C0.icmp_lt d3_2 (by decide) (by decide : _ = 9) rfl (fun c2 => ?_) (fun c2 => ?_)
  · refine C0.iloadN d3_9 rfl rfl ?_
    exact C0.retI d3_10 rfl (by decide) (by decide) ⟨by rw [f3, if_pos c2], rfl⟩
  · refine C0.iloadN d3_5 rfl rfl ?_
    refine C0.goto d3_6 (by decide) (by decide : _ = 10) ?_
    exact C0.retI d3_10 rfl (by decide) (by decide) ⟨by rw [f3, if_neg c2], rfl⟩
theorem own_nar01 (y : Int32) : nar .boolean (f5 y) = f5 y := by
  unfold f5; repeat' split
  all_goals rfl

def f6 (i1 : Int32) (i2 : Int32) (i3 : Int32) (y1 : Int32) : Int32 := if i1 < i2 then (1 : Int32) else (if i1 < i3 then (f5 y1) else ((1 : Int32)))
theorem pn6 : plainName "com/example/leeway/leeway/service/HeaderFieldsTrimmedEndPinLaw" = true := by first | (simp [plainName, overriddenIn]; done) | decide +kernel
theorem pd6 : parseMethodDescriptor "([BIII)Z" = some ⟨[(.array .byte), .int, .int, .int], some .boolean⟩ := by decide +kernel
theorem ef6 (m : MethodId) (o0 : Addr) (i1 : Int32) (i2 : Int32) (i3 : Int32) : entryFrame m #[(.ref o0), (.int i1), (.int i2), (.int i3)] 4 = mkF m 0 #[.val (.ref o0), .val (.int i1), .val (.int i2), .val (.int i3)] [] := by first | (simp [entryFrame, mkF, argsToLocals, Value.category]; done) | rfl
theorem d6_0 : decode method_4_code 0 = .ok (.iload_n 2, 1) := by decide +kernel
theorem d6_1 : decode method_4_code 1 = .ok (.iload_n 1, 1) := by decide +kernel
theorem d6_2 : decode method_4_code 2 = .ok (.if_icmp .gt 15, 3) := by decide +kernel
theorem d6_5 : decode method_4_code 5 = .ok (.iload_n 1, 1) := by decide +kernel
theorem d6_6 : decode method_4_code 6 = .ok (.iload_n 3, 1) := by decide +kernel
theorem d6_7 : decode method_4_code 7 = .ok (.if_icmp .ge 10, 3) := by decide +kernel
theorem d6_10 : decode method_4_code 10 = .ok (.aload_n 0, 1) := by decide +kernel
theorem d6_11 : decode method_4_code 11 = .ok (.iload_n 1, 1) := by decide +kernel
theorem d6_12 : decode method_4_code 12 = .ok (.baload, 1) := by decide +kernel
theorem d6_13 : decode method_4_code 13 = .ok (.invokestatic 7, 3) := by decide +kernel
theorem d6_16 : decode method_4_code 16 = .ok (.ireturn, 1) := by decide +kernel
theorem d6_17 : decode method_4_code 17 = .ok (.iconst 1, 1) := by decide +kernel
theorem d6_18 : decode method_4_code 18 = .ok (.ireturn, 1) := by decide +kernel
set_option maxRecDepth 65536 in
set_option maxHeartbeats 40000000 in
theorem rm6 (l : Launch) (Z : State) (a0 : Array Value) (hw : ∀ d ∈ tables_1, d.before a0 Z = true) (o0 : Addr) (i1 : Int32) (i2 : Int32) (i3 : Int32) (k1 : ClassId) (n1 : Int32) (vs : List Value) (dv : Value) (y1 : Int32) (h0 : Heap) (n0 : Nat) (Z0 : n0 ≤ h0.size) (V_o0 : Arv Z h0 o0 k1 .byte n1 vs dv) (hin : ¬ i1 < (0 : Int32) ∧ i1 < n1) (hv : vs.getD (i1).toNatClampNeg dv = .int y1) :
    Ctr l Z (⟨"com/example/leeway/leeway/service/HeaderFieldsTrimmedEndPinLaw", "tailOk", "([BIII)Z"⟩ : MethodName) method_4_code 4 (some .boolean) ({ frames := 1, cells := 0, slots := 0, locals := 13 } : Room) #[(.ref o0), (.int i1), (.int i2), (.int i3)] h0 n0 (fun v h' => v = some (.int (f6 i1 i2 i3 y1)) ∧ h' = h0) := by
  refine Ctr.body (L := #[.val (.ref o0), .val (.int i1), .val (.int i2), .val (.int i3)]) (plainFor_of_name pn6) Z0 (fun m => ef6 m o0 i1 i2 i3) ?_
  intro p e F m below meth c T0 C0
  refine C0.iloadN d6_0 rfl rfl ?_
  refine C0.iloadN d6_1 rfl rfl ?_
  refine C0.icmp_gt d6_2 (by decide) (by decide : _ = 17) rfl (fun c2 => ?_) (fun c2 => ?_)
  · refine C0.iconst (1 : Int32) d6_17 rfl rfl ?_
    exact C0.retN (t := .boolean) d6_18 rfl (by simp) (by decide) (by decide) (w := (1 : Int32)) rfl ⟨by rw [f6, if_pos c2], rfl⟩
  · refine C0.iloadN d6_5 rfl rfl ?_
    refine C0.iloadN d6_6 rfl rfl ?_
    refine C0.icmp_ge d6_7 (by decide) (by decide : _ = 17) rfl (fun c7 => ?_) (fun c7 => ?_)
    · refine C0.iconst (1 : Int32) d6_17 rfl rfl ?_
      exact C0.retN (t := .boolean) d6_18 rfl (by simp) (by decide) (by decide) (w := (1 : Int32)) rfl ⟨by rw [f6, if_neg c2, if_neg c7], rfl⟩
    · refine C0.aloadN d6_10 rfl rfl rfl ?_
      refine C0.iloadN d6_11 rfl rfl ?_
      refine C0.baload (v := y1) V_o0 hin hv d6_12 rfl ?_
      refine C0.callS (hw _ (List.mem_of_getElem? (i := 19) rfl)) (hw _ (List.mem_of_getElem? (i := 20) rfl)) (hw _ (List.mem_of_getElem? (i := 3) rfl)) (hw _ (List.mem_of_getElem? (i := 21) rfl)) (by decide) (rm5 l Z a0 hw y1 h0 n0 C0.size ) (argsL := [(.int y1)]) pd5 rfl 0 (by decide) (by decide) (by decide) (by decide) (rest := []) rfl rfl (Nat.le_of_eq rfl) d6_13 rfl (fun v1 T1 h1 C1 qq1 => ?_)
      obtain ⟨rfl, hh1⟩ := qq1
      have hh1 := hh1.symm; subst hh1
      show Go p e below F n0 (fun v h' => v = some (.int (f6 i1 i2 i3 y1)) ∧ h' = h0) T1 (mkF m 16 #[.val (.ref o0), .val (.int i1), .val (.int i2), .val (.int i3)] [(.int (f5 y1))])
      exact C1.retN (t := .boolean) d6_16 rfl (by simp) (by decide) (by decide) (w := (f5 y1)) (own_nar01 _) ⟨by rw [f6, if_neg c2, if_pos c7], rfl⟩
set_option maxRecDepth 65536 in
set_option maxHeartbeats 40000000 in
theorem own_pre4_0 (o0 : Addr) (i1 : Int32) (i2 : Int32) (k1 : ClassId) (n1 : Int32) (vs : List Value) (dv : Value) (sa : Addr) (sk : ClassId) (sd : Value) (g : Int32 → Int32) (R : Int32) (ix : Int32) (hg : ∀ j : Int32, ¬ j < (0 : Int32) ∧ j < n1 → vs.getD j.toNatClampNeg dv = .int (g j)) (hf : ¬ i1 < (0 : Int32)) (ht : ¬ n1 < i2) (hR : R = loopT g (i2.toInt - i1.toInt).toNat i2) (hk : (ix.toInt - i1.toInt).toNat = 0) (h0 : ¬ i2 < ix) : ¬ i1 < ix := by
  clear hR hg
  have bl_0 := (i1).le_toInt; have bu_0 := (i1).toInt_lt
  have bl_1 := (i2).le_toInt; have bu_1 := (i2).toInt_lt
  have bl_2 := (n1).le_toInt; have bu_2 := (n1).toInt_lt
  have bl_3 := (ix).le_toInt; have bu_3 := (ix).toInt_lt
  try simp only [own_eqite, own_iteeq] at *
  try simp only [ne_eq, and_true, true_and, or_true, true_or, and_false, false_and, or_false, false_or, not_true_eq_false, not_false_eq_true, Int32.lt_iff_toInt_lt, Int64.lt_iff_toInt_lt, ← Int32.toInt_inj, ← Int64.toInt_inj, Int32.reduceToInt, Int64.reduceToInt] at *
  omega
set_option maxRecDepth 65536 in
set_option maxHeartbeats 40000000 in
theorem own_ret4_0 (o0 : Addr) (i1 : Int32) (i2 : Int32) (k1 : ClassId) (n1 : Int32) (vs : List Value) (dv : Value) (sa : Addr) (sk : ClassId) (sd : Value) (g : Int32 → Int32) (R : Int32) (ix : Int32) (hg : ∀ j : Int32, ¬ j < (0 : Int32) ∧ j < n1 → vs.getD j.toNatClampNeg dv = .int (g j)) (hf : ¬ i1 < (0 : Int32)) (ht : ¬ n1 < i2) (hR : R = loopT g (i2.toInt - i1.toInt).toNat i2) (hk : (ix.toInt - i1.toInt).toNat = 0) (h0 : ¬ i2 < ix) (hI : ix = R) : ix = (loopT g (i2.toInt - i1.toInt).toNat i2) := by
  exact hI.trans hR
set_option maxRecDepth 65536 in
set_option maxHeartbeats 40000000 in
theorem own_pre4_1 (o0 : Addr) (i1 : Int32) (i2 : Int32) (k1 : ClassId) (n1 : Int32) (vs : List Value) (dv : Value) (sa : Addr) (sk : ClassId) (sd : Value) (g : Int32 → Int32) (R : Int32) (k : Nat) (ix : Int32) (hg : ∀ j : Int32, ¬ j < (0 : Int32) ∧ j < n1 → vs.getD j.toNatClampNeg dv = .int (g j)) (hf : ¬ i1 < (0 : Int32)) (ht : ¬ n1 < i2) (hR : R = loopT g (i2.toInt - i1.toInt).toNat i2) (hk : (ix.toInt - i1.toInt).toNat = (k + 1)) (h0 : ¬ i2 < ix) : i1 < ix := by
  clear hR hg
  have bl_0 := (i1).le_toInt; have bu_0 := (i1).toInt_lt
  have bl_1 := (i2).le_toInt; have bu_1 := (i2).toInt_lt
  have bl_2 := (n1).le_toInt; have bu_2 := (n1).toInt_lt
  have bl_3 := (ix).le_toInt; have bu_3 := (ix).toInt_lt
  try simp only [own_eqite, own_iteeq] at *
  try simp only [ne_eq, and_true, true_and, or_true, true_or, and_false, false_and, or_false, false_or, not_true_eq_false, not_false_eq_true, Int32.lt_iff_toInt_lt, Int64.lt_iff_toInt_lt, ← Int32.toInt_inj, ← Int64.toInt_inj, Int32.reduceToInt, Int64.reduceToInt] at *
  omega
set_option maxRecDepth 65536 in
set_option maxHeartbeats 40000000 in
theorem own_pre4_2 (o0 : Addr) (i1 : Int32) (i2 : Int32) (k1 : ClassId) (n1 : Int32) (vs : List Value) (dv : Value) (sa : Addr) (sk : ClassId) (sd : Value) (g : Int32 → Int32) (R : Int32) (k : Nat) (ix : Int32) (hg : ∀ j : Int32, ¬ j < (0 : Int32) ∧ j < n1 → vs.getD j.toNatClampNeg dv = .int (g j)) (hf : ¬ i1 < (0 : Int32)) (ht : ¬ n1 < i2) (hR : R = loopT g (i2.toInt - i1.toInt).toNat i2) (hk : (ix.toInt - i1.toInt).toNat = (k + 1)) (h0 : ¬ i2 < ix) : ¬ (ix - (1 : Int32)) < (0 : Int32) ∧ (ix - (1 : Int32)) < n1 := by
  clear hR hg
  have ca_0 := c_isub ix (1 : Int32)
  have bl_0 := (i1).le_toInt; have bu_0 := (i1).toInt_lt
  have bl_1 := (i2).le_toInt; have bu_1 := (i2).toInt_lt
  have bl_2 := (n1).le_toInt; have bu_2 := (n1).toInt_lt
  have bl_3 := (ix).le_toInt; have bu_3 := (ix).toInt_lt
  have bl_4 := (ix - (1 : Int32)).le_toInt; have bu_4 := (ix - (1 : Int32)).toInt_lt
  try simp only [own_eqite, own_iteeq] at *
  try simp only [ne_eq, and_true, true_and, or_true, true_or, and_false, false_and, or_false, false_or, not_true_eq_false, not_false_eq_true, Int32.lt_iff_toInt_lt, Int64.lt_iff_toInt_lt, ← Int32.toInt_inj, ← Int64.toInt_inj, Int32.reduceToInt, Int64.reduceToInt] at *
  omega
set_option maxRecDepth 65536 in
set_option maxHeartbeats 40000000 in
theorem own_pre4_3 (o0 : Addr) (i1 : Int32) (i2 : Int32) (k1 : ClassId) (n1 : Int32) (vs : List Value) (dv : Value) (sa : Addr) (sk : ClassId) (sd : Value) (g : Int32 → Int32) (R : Int32) (k : Nat) (ix : Int32) (hg : ∀ j : Int32, ¬ j < (0 : Int32) ∧ j < n1 → vs.getD j.toNatClampNeg dv = .int (g j)) (hf : ¬ i1 < (0 : Int32)) (ht : ¬ n1 < i2) (hR : R = loopT g (i2.toInt - i1.toInt).toNat i2) (hk : (ix.toInt - i1.toInt).toNat = (k + 1)) (h0 : ¬ i2 < ix) : ¬ ((g (ix - (1 : Int32))) &&& (255 : Int32)) < (0 : Int32) ∧ ((g (ix - (1 : Int32))) &&& (255 : Int32)) < (256 : Int32) := by
  clear hR hg
  have ca_0 := c_mask (g (ix - (1 : Int32))) (255 : Int32) 8 (by decide) (by decide)
  have ca_1 := c_isub ix (1 : Int32)
  have bl_0 := (i1).le_toInt; have bu_0 := (i1).toInt_lt
  have bl_1 := (i2).le_toInt; have bu_1 := (i2).toInt_lt
  have bl_2 := (n1).le_toInt; have bu_2 := (n1).toInt_lt
  have bl_3 := (ix).le_toInt; have bu_3 := (ix).toInt_lt
  have bl_4 := (ix - (1 : Int32)).le_toInt; have bu_4 := (ix - (1 : Int32)).toInt_lt
  try simp only [own_eqite, own_iteeq] at *
  try simp only [ne_eq, and_true, true_and, or_true, true_or, and_false, false_and, or_false, false_or, not_true_eq_false, not_false_eq_true, Int32.lt_iff_toInt_lt, Int64.lt_iff_toInt_lt, ← Int32.toInt_inj, ← Int64.toInt_inj, Int32.reduceToInt, Int64.reduceToInt] at *
  omega
set_option maxRecDepth 65536 in
set_option maxHeartbeats 40000000 in
theorem own_ret4_1 (o0 : Addr) (i1 : Int32) (i2 : Int32) (k1 : ClassId) (n1 : Int32) (vs : List Value) (dv : Value) (sa : Addr) (sk : ClassId) (sd : Value) (g : Int32 → Int32) (R : Int32) (k : Nat) (ix : Int32) (hg : ∀ j : Int32, ¬ j < (0 : Int32) ∧ j < n1 → vs.getD j.toNatClampNeg dv = .int (g j)) (hf : ¬ i1 < (0 : Int32)) (ht : ¬ n1 < i2) (hR : R = loopT g (i2.toInt - i1.toInt).toNat i2) (hk : (ix.toInt - i1.toInt).toNat = (k + 1)) (h0 : ¬ i2 < ix) (hI : ix = R) : ix = (loopT g (i2.toInt - i1.toInt).toNat i2) := by
  exact hI.trans hR
set_option maxRecDepth 65536 in
set_option maxHeartbeats 40000000 in
theorem own_inv4_0 (o0 : Addr) (i1 : Int32) (i2 : Int32) (k1 : ClassId) (n1 : Int32) (vs : List Value) (dv : Value) (sa : Addr) (sk : ClassId) (sd : Value) (g : Int32 → Int32) (R : Int32) (k : Nat) (ix : Int32) (hg : ∀ j : Int32, ¬ j < (0 : Int32) ∧ j < n1 → vs.getD j.toNatClampNeg dv = .int (g j)) (hf : ¬ i1 < (0 : Int32)) (ht : ¬ n1 < i2) (hR : R = loopT g (i2.toInt - i1.toInt).toNat i2) (hk : (ix.toInt - i1.toInt).toNat = (k + 1)) (h0 : ¬ i2 < ix) (c20 : ¬ (own_sp ((g (ix - (1 : Int32))) &&& (255 : Int32))) = (0 : Int32)) : ((ix + (-1 : Int32)).toInt - i1.toInt).toNat = k := by
  clear c20 hR hg
  have ca_0 := c_iadd ix (-1 : Int32)
  have bl_0 := (i1).le_toInt; have bu_0 := (i1).toInt_lt
  have bl_1 := (i2).le_toInt; have bu_1 := (i2).toInt_lt
  have bl_2 := (n1).le_toInt; have bu_2 := (n1).toInt_lt
  have bl_3 := (ix).le_toInt; have bu_3 := (ix).toInt_lt
  have bl_4 := (ix + (-1 : Int32)).le_toInt; have bu_4 := (ix + (-1 : Int32)).toInt_lt
  try simp only [own_eqite, own_iteeq] at *
  try simp only [ne_eq, and_true, true_and, or_true, true_or, and_false, false_and, or_false, false_or, not_true_eq_false, not_false_eq_true, Int32.lt_iff_toInt_lt, Int64.lt_iff_toInt_lt, ← Int32.toInt_inj, ← Int64.toInt_inj, Int32.reduceToInt, Int64.reduceToInt] at *
  omega
set_option maxRecDepth 65536 in
set_option maxHeartbeats 40000000 in
theorem own_inv4_1 (o0 : Addr) (i1 : Int32) (i2 : Int32) (k1 : ClassId) (n1 : Int32) (vs : List Value) (dv : Value) (sa : Addr) (sk : ClassId) (sd : Value) (g : Int32 → Int32) (R : Int32) (k : Nat) (ix : Int32) (hg : ∀ j : Int32, ¬ j < (0 : Int32) ∧ j < n1 → vs.getD j.toNatClampNeg dv = .int (g j)) (hf : ¬ i1 < (0 : Int32)) (ht : ¬ n1 < i2) (hR : R = loopT g (i2.toInt - i1.toInt).toNat i2) (hk : (ix.toInt - i1.toInt).toNat = (k + 1)) (h0 : ¬ i2 < ix) (c20 : ¬ (own_sp ((g (ix - (1 : Int32))) &&& (255 : Int32))) = (0 : Int32)) : ¬ i2 < (ix + (-1 : Int32)) := by
  clear c20 hR hg
  have ca_0 := c_iadd ix (-1 : Int32)
  have ca_1 := c_iadd ix (-1 : Int32)
  have bl_0 := (i1).le_toInt; have bu_0 := (i1).toInt_lt
  have bl_1 := (i2).le_toInt; have bu_1 := (i2).toInt_lt
  have bl_2 := (n1).le_toInt; have bu_2 := (n1).toInt_lt
  have bl_3 := (ix).le_toInt; have bu_3 := (ix).toInt_lt
  have bl_4 := (ix + (-1 : Int32)).le_toInt; have bu_4 := (ix + (-1 : Int32)).toInt_lt
  have bl_5 := (ix + (-1 : Int32)).le_toInt; have bu_5 := (ix + (-1 : Int32)).toInt_lt
  try simp only [own_eqite, own_iteeq] at *
  try simp only [ne_eq, and_true, true_and, or_true, true_or, and_false, false_and, or_false, false_or, not_true_eq_false, not_false_eq_true, Int32.lt_iff_toInt_lt, Int64.lt_iff_toInt_lt, ← Int32.toInt_inj, ← Int64.toInt_inj, Int32.reduceToInt, Int64.reduceToInt] at *
  omega
set_option maxRecDepth 65536 in
set_option maxHeartbeats 40000000 in
theorem own_inv4_2 (o0 : Addr) (i1 : Int32) (i2 : Int32) (k1 : ClassId) (n1 : Int32) (vs : List Value) (dv : Value) (sa : Addr) (sk : ClassId) (sd : Value) (g : Int32 → Int32) (hg : ∀ j : Int32, ¬ j < (0 : Int32) ∧ j < n1 → vs.getD j.toNatClampNeg dv = .int (g j)) (hf : ¬ i1 < (0 : Int32)) (ht : ¬ n1 < i2) : ¬ i2 < i2 := by
  clear hg
  have bl_0 := (i1).le_toInt; have bu_0 := (i1).toInt_lt
  have bl_1 := (i2).le_toInt; have bu_1 := (i2).toInt_lt
  have bl_2 := (n1).le_toInt; have bu_2 := (n1).toInt_lt
  try simp only [own_eqite, own_iteeq] at *
  try simp only [ne_eq, and_true, true_and, or_true, true_or, and_false, false_and, or_false, false_or, not_true_eq_false, not_false_eq_true, Int32.lt_iff_toInt_lt, Int64.lt_iff_toInt_lt, ← Int32.toInt_inj, ← Int64.toInt_inj, Int32.reduceToInt, Int64.reduceToInt] at *
  omega
theorem pn4 : plainName "com/example/leeway/leeway/service/HeaderFields" = true := by first | (simp [plainName, overriddenIn]; done) | decide +kernel
theorem pd4 : parseMethodDescriptor "([BII)I" = some ⟨[(.array .byte), .int, .int], some .int⟩ := by decide +kernel
theorem ef4 (m : MethodId) (o0 : Addr) (i1 : Int32) (i2 : Int32) : entryFrame m #[(.ref o0), (.int i1), (.int i2)] 4 = mkF m 0 #[.val (.ref o0), .val (.int i1), .val (.int i2), .unset] [] := by first | (simp [entryFrame, mkF, argsToLocals, Value.category]; done) | rfl
theorem d4_0 : decode prog_122_method_8_code 0 = .ok (.iload_n 2, 1) := by decide +kernel
theorem d4_1 : decode prog_122_method_8_code 1 = .ok (.istore_n 3, 1) := by decide +kernel
theorem d4_2 : decode prog_122_method_8_code 2 = .ok (.iload_n 3, 1) := by decide +kernel
theorem d4_3 : decode prog_122_method_8_code 3 = .ok (.iload_n 1, 1) := by decide +kernel
theorem d4_4 : decode prog_122_method_8_code 4 = .ok (.if_icmp .le 25, 3) := by decide +kernel
theorem d4_7 : decode prog_122_method_8_code 7 = .ok (.getstatic 68, 3) := by decide +kernel
theorem d4_10 : decode prog_122_method_8_code 10 = .ok (.aload_n 0, 1) := by decide +kernel
theorem d4_11 : decode prog_122_method_8_code 11 = .ok (.iload_n 3, 1) := by decide +kernel
theorem d4_12 : decode prog_122_method_8_code 12 = .ok (.iconst 1, 1) := by decide +kernel
theorem d4_13 : decode prog_122_method_8_code 13 = .ok (.isub, 1) := by decide +kernel
theorem d4_14 : decode prog_122_method_8_code 14 = .ok (.baload, 1) := by decide +kernel
theorem d4_15 : decode prog_122_method_8_code 15 = .ok (.sipush 255, 3) := by decide +kernel
theorem d4_18 : decode prog_122_method_8_code 18 = .ok (.iand, 1) := by decide +kernel
theorem d4_19 : decode prog_122_method_8_code 19 = .ok (.baload, 1) := by decide +kernel
theorem d4_20 : decode prog_122_method_8_code 20 = .ok (.ifCond .eq 9, 3) := by decide +kernel
theorem d4_23 : decode prog_122_method_8_code 23 = .ok (.iinc 3 (-1), 3) := by decide +kernel
theorem d4_26 : decode prog_122_method_8_code 26 = .ok (.goto (-24), 3) := by decide +kernel
theorem d4_29 : decode prog_122_method_8_code 29 = .ok (.iload_n 3, 1) := by decide +kernel
theorem d4_30 : decode prog_122_method_8_code 30 = .ok (.ireturn, 1) := by decide +kernel
set_option maxRecDepth 65536 in
set_option maxHeartbeats 40000000 in
theorem rm4 (l : Launch) (Z : State) (a0 : Array Value) (hw : ∀ d ∈ tables_1, d.before a0 Z = true) (o0 : Addr) (i1 : Int32) (i2 : Int32) (k1 : ClassId) (n1 : Int32) (vs : List Value) (dv : Value) (sa : Addr) (sk : ClassId) (sd : Value) (g : Int32 → Int32) (h0 : Heap) (n0 : Nat) (Z0 : n0 ≤ h0.size) (V_o0 : Arv Z h0 o0 k1 .byte n1 vs dv) (S_SPACE : Sta Z h0 "com/example/leeway/leeway/service/HeaderFields" "SPACE" "[Z" (.ref sa)) (V_sa : Arv Z h0 sa sk .boolean (256 : Int32) own_spl sd) (hg : ∀ j : Int32, ¬ j < (0 : Int32) ∧ j < n1 → vs.getD j.toNatClampNeg dv = .int (g j)) (hf : ¬ i1 < (0 : Int32)) (ht : ¬ n1 < i2) :
    Ctr l Z (⟨"com/example/leeway/leeway/service/HeaderFields", "trimmedEnd", "([BII)I"⟩ : MethodName) prog_122_method_8_code 4 (some .int) ({ frames := 0, cells := 0, slots := 0, locals := 0 } : Room) #[(.ref o0), (.int i1), (.int i2)] h0 n0 (fun v h' => v = some (.int (loopT g (i2.toInt - i1.toInt).toNat i2)) ∧ h' = h0) := by
  refine Ctr.body (L := #[.val (.ref o0), .val (.int i1), .val (.int i2), .unset]) (plainFor_of_name pn4) Z0 (fun m => ef4 m o0 i1 i2) ?_
  intro p e F m below meth c T0 C0
  refine C0.iloadN d4_0 rfl rfl ?_
  refine C0.istoreN d4_1 rfl (L' := #[.val (.ref o0), .val (.int i1), .val (.int i2), .val (.int i2)]) rfl ?_
  obtain ⟨R, hR⟩ : ∃ z, z = loopT g (i2.toInt - i1.toInt).toNat i2 := ⟨_, rfl⟩
  have LP : ∀ (k : Nat) (T : State) (ix : Int32), Cx p l e ({ frames := 0, cells := 0, slots := 0, locals := 0 } : Room) m #[(.ref o0), (.int i1), (.int i2)] below meth c Z (⟨"com/example/leeway/leeway/service/HeaderFields", "trimmedEnd", "([BII)I"⟩ : MethodName) prog_122_method_8_code 4 (some .int) n0 false F T h0 0 0 → loopT g k ix = R → ((ix.toInt - i1.toInt).toNat = k) → (¬ i2 < ix) → Go p e below F n0 (fun v h' => v = some (.int (loopT g (i2.toInt - i1.toInt).toNat i2)) ∧ h' = h0) T (mkF m 2 #[.val (.ref o0), .val (.int i1), .val (.int i2), .val (.int ix)] []) := by
    intro k
    induction k with
    | zero =>
      intro T1 ix C1 hI hk h0
      refine C1.iloadN d4_2 rfl rfl ?_
      refine C1.iloadN d4_3 rfl rfl ?_
      refine C1.icmp_le d4_4 (by decide) (by decide : _ = 29) rfl (fun _ => ?_) (fun q => absurd q (own_pre4_0 o0 i1 i2 k1 n1 vs dv sa sk sd g R ix hg hf ht hR hk h0))
      refine C1.iloadN d4_29 rfl rfl ?_
      simp only [loopT] at hI
      exact C1.retI d4_30 rfl (by decide) (by decide) ⟨congrArg (fun z => some (Value.int z)) (own_ret4_0 o0 i1 i2 k1 n1 vs dv sa sk sd g R ix hg hf ht hR hk h0 hI), rfl⟩
    | succ k ih =>
      intro T2 ix C2 hI hk h0
      refine C2.iloadN d4_2 rfl rfl ?_
      refine C2.iloadN d4_3 rfl rfl ?_
      refine C2.icmp_le d4_4 (by decide) (by decide : _ = 29) rfl (fun q => absurd (own_pre4_1 o0 i1 i2 k1 n1 vs dv sa sk sd g R k ix hg hf ht hR hk h0) q) (fun _ => ?_)
      refine C2.getS (host := "") (Or.inl (hw _ (List.mem_of_getElem? (i := 17) rfl))) Via.refl S_SPACE d4_7 rfl (fun T3 C3 => ?_)
      refine C3.aloadN d4_10 rfl rfl rfl ?_
      refine C3.iloadN d4_11 rfl rfl ?_
      refine C3.iconst (1 : Int32) d4_12 rfl rfl ?_
      refine C3.isub d4_13 rfl ?_
      refine C3.baload (v := (g (ix - (1 : Int32)))) V_o0 (own_pre4_2 o0 i1 i2 k1 n1 vs dv sa sk sd g R k ix hg hf ht hR hk h0) (hg (ix - (1 : Int32)) (own_pre4_2 o0 i1 i2 k1 n1 vs dv sa sk sd g R k ix hg hf ht hR hk h0)) d4_14 rfl ?_
      refine C3.sipush (255 : Int32) d4_15 rfl rfl ?_
      refine C3.iand d4_18 rfl ?_
      refine C3.zaload (v := (own_sp ((g (ix - (1 : Int32))) &&& (255 : Int32)))) V_sa (own_pre4_3 o0 i1 i2 k1 n1 vs dv sa sk sd g R k ix hg hf ht hR hk h0) (own_spg (own_pre4_3 o0 i1 i2 k1 n1 vs dv sa sk sd g R k ix hg hf ht hR hk h0)) d4_19 rfl ?_
      refine C3.if_eq d4_20 (by decide) (by decide : _ = 29) rfl (fun c20 => ?_) (fun c20 => ?_)
      · refine C3.iloadN d4_29 rfl rfl ?_
        simp only [loopT, if_pos c20] at hI
        exact C3.retI d4_30 rfl (by decide) (by decide) ⟨congrArg (fun z => some (Value.int z)) (own_ret4_1 o0 i1 i2 k1 n1 vs dv sa sk sd g R k ix hg hf ht hR hk h0 hI), rfl⟩
      · refine C3.iinc (-1 : Int32) d4_23 rfl rfl rfl (L' := #[.val (.ref o0), .val (.int i1), .val (.int i2), .val (.int (ix + (-1 : Int32)))]) rfl ?_
        refine C3.goto d4_26 (by decide) (by decide : _ = 2) ?_
        simp only [loopT, if_neg c20] at hI
        exact ih _ (ix + (-1 : Int32)) C3 hI (own_inv4_0 o0 i1 i2 k1 n1 vs dv sa sk sd g R k ix hg hf ht hR hk h0 c20) (own_inv4_1 o0 i1 i2 k1 n1 vs dv sa sk sd g R k ix hg hf ht hR hk h0 c20)
  exact LP _ _ i2 C0 hR.symm rfl (own_inv4_2 o0 i1 i2 k1 n1 vs dv sa sk sd g hg hf ht)
theorem own_getM {α β : Type} (f : α → β) (l : List α) (i : Nat) (d : α) : (l.map f).getD i (f d) = f (l.getD i d) := by
  simp only [List.getD_eq_getElem?_getD, List.getElem?_map]; cases l[i]? <;> rfl
theorem own_mem4 (x : Int32) (h : 0 ≤ x.toInt) (h' : x.toInt ≤ 4) : x ∈ ([(0 : Int32), (1 : Int32), (2 : Int32), (3 : Int32), (4 : Int32)] : List Int32) := by
  have q : x.toInt = 0 ∨ x.toInt = 1 ∨ x.toInt = 2 ∨ x.toInt = 3 ∨ x.toInt = 4 := by omega
  rcases q with q | q | q | q | q
  · rw [show x = (0 : Int32) from Int32.toInt_inj.mp q]; simp
  · rw [show x = (1 : Int32) from Int32.toInt_inj.mp q]; simp
  · rw [show x = (2 : Int32) from Int32.toInt_inj.mp q]; simp
  · rw [show x = (3 : Int32) from Int32.toInt_inj.mp q]; simp
  · rw [show x = (4 : Int32) from Int32.toInt_inj.mp q]; simp
def loopB (B : Int32 → Bool) : Nat → Int32 → Int32
  | 0, i => i
  | k + 1, i => if B (i - (1 : Int32)) = false then i else loopB B k (i + (-1 : Int32))
def own_bl (y : Int32) : Bool := decide (own_sp (y &&& (255 : Int32)) ≠ (0 : Int32))
theorem own_lB (g : Int32 → Int32) : ∀ k i, loopT g k i = loopB (fun j => own_bl (g j)) k i := by
  intro k
  induction k with
  | zero => intros; rfl
  | succ k ih =>
    intro i
    simp only [loopT, loopB]
    by_cases h : own_sp (g (i - (1 : Int32)) &&& (255 : Int32)) = (0 : Int32)
    · rw [if_pos h, if_pos (by simp [own_bl, h])]
    · rw [if_neg h, if_neg (by simp [own_bl, h]), ih]
def f5E (b : Bool) : Int32 := if b = true then (1 : Int32) else (0 : Int32)
def f6E (i1 i2 i3 : Int32) (b : Bool) : Int32 := if i1 < i2 then (1 : Int32) else (if i1 < i3 then f5E b else (1 : Int32))
theorem own_f5E (y : Int32) : f5 y = f5E (own_bl y) := by
  by_cases a : (y &&& (255 : Int32)) = (32 : Int32)
  · simp only [f5, f5E, own_bl, own_sp, a]; decide
  · by_cases b : (y &&& (255 : Int32)) = (9 : Int32)
    · simp only [f5, f5E, own_bl, own_sp, b]; decide
    · simp [f5, f5E, own_bl, own_sp, a, b]
theorem own_f6E (i1 i2 i3 y : Int32) : f6 i1 i2 i3 y = f6E i1 i2 i3 (own_bl y) := by
  simp only [f6, f6E, own_f5E]
theorem own_bf : ∀ s ∈ ([0, 1, 2, 3, 4] : List Int32), ∀ e ∈ ([0, 1, 2, 3, 4] : List Int32), ∀ b0 b1 b2 b3 bd : Bool, e < s ∨ (fun r : Int32 => ¬ r < s ∧ ¬ e < r ∧ (s < r → f5E ([b0, b1, b2, b3].getD (r - (1 : Int32)).toNatClampNeg bd) = (0 : Int32)) ∧ ¬ f6E 0 r e b0 = (0 : Int32) ∧ ¬ f6E 1 r e b1 = (0 : Int32) ∧ ¬ f6E 2 r e b2 = (0 : Int32) ∧ ¬ f6E 3 r e b3 = (0 : Int32)) (loopB (fun j => [b0, b1, b2, b3].getD j.toNatClampNeg bd) (e.toInt - s.toInt).toNat e) := by decide +kernel
theorem own_fin (y0 y1 y2 y3 s e r : Int32) (q1 : 0 ≤ s.toInt) (q2 : s.toInt ≤ e.toInt) (q3 : e.toInt ≤ 4) (hr : r = loopT (fun j => ([y0, y1, y2, y3].getD j.toNatClampNeg (0 : Int32))) (e.toInt - s.toInt).toNat e) :
    ¬ r < s ∧ ¬ e < r ∧ (s < r → f5 ([y0, y1, y2, y3].getD (r - (1 : Int32)).toNatClampNeg (0 : Int32)) = (0 : Int32)) ∧ ¬ f6 (0 : Int32) r e y0 = (0 : Int32) ∧ ¬ f6 (1 : Int32) r e y1 = (0 : Int32) ∧ ¬ f6 (2 : Int32) r e y2 = (0 : Int32) ∧ ¬ f6 (3 : Int32) r e y3 = (0 : Int32) := by
  have e0 : ∀ j : Int32, own_bl ([y0, y1, y2, y3].getD j.toNatClampNeg (0 : Int32)) = [own_bl y0, own_bl y1, own_bl y2, own_bl y3].getD j.toNatClampNeg (own_bl 0) := fun j => (own_getM own_bl [y0, y1, y2, y3] _ 0).symm
  rw [own_lB, show (fun j : Int32 => own_bl ([y0, y1, y2, y3].getD j.toNatClampNeg (0 : Int32))) = _ from funext e0] at hr
  simp only [own_f5E, own_f6E, e0]
  rcases own_bf s (own_mem4 _ q1 (by omega)) e (own_mem4 _ (by omega) q3) (own_bl y0) (own_bl y1) (own_bl y2) (own_bl y3) (own_bl 0) with h | h
  · rw [Int32.lt_iff_toInt_lt] at h; omega
  · rw [← hr] at h; exact h

set_option maxRecDepth 65536 in
set_option maxHeartbeats 40000000 in
theorem own_pre0 (i0 : Int32) (i1 : Int32) (i2 : Int32) (i3 : Int32) (i4 : Int32) (i5 : Int32) (sa : Addr) (sk : ClassId) (sd : Value) (v10 : Int32) (v11 : Int32) (v13 : Int32) (v15 : Int32) (hv10 : v10 = ((i4 &&& (2147483647 : Int32)) % (5 : Int32))) (hv11 : v11 = ((i5 &&& (2147483647 : Int32)) % (5 : Int32))) (hv13 : v13 = (f2 v10 v11)) (hv15 : v15 = (f3 v10 v11)) : ¬ v13 < (0 : Int32) := by
  have ca_0 := c_mask i4 2147483647 31 (by decide) (by decide)
  have ca_1 := c_irem (i4 &&& 2147483647) 5 5 rfl
  have ca_2 := c_mask i5 2147483647 31 (by decide) (by decide)
  have ca_3 := c_irem (i5 &&& 2147483647) 5 5 rfl
  try simp only [f2, f3, own_eqite, own_iteeq] at *
  try simp only [ne_eq, and_true, true_and, or_true, true_or, and_false, false_and, or_false, false_or, not_true_eq_false, not_false_eq_true, Int32.lt_iff_toInt_lt, Int64.lt_iff_toInt_lt, ← Int32.toInt_inj, ← Int64.toInt_inj, Int32.reduceToInt, Int64.reduceToInt] at *
  omega
set_option maxRecDepth 65536 in
set_option maxHeartbeats 40000000 in
theorem own_pre1 (i0 : Int32) (i1 : Int32) (i2 : Int32) (i3 : Int32) (i4 : Int32) (i5 : Int32) (sa : Addr) (sk : ClassId) (sd : Value) (v10 : Int32) (v11 : Int32) (v13 : Int32) (v15 : Int32) (hv10 : v10 = ((i4 &&& (2147483647 : Int32)) % (5 : Int32))) (hv11 : v11 = ((i5 &&& (2147483647 : Int32)) % (5 : Int32))) (hv13 : v13 = (f2 v10 v11)) (hv15 : v15 = (f3 v10 v11)) : ¬ (4 : Int32) < v15 := by
  have ca_0 := c_mask i4 2147483647 31 (by decide) (by decide)
  have ca_1 := c_irem (i4 &&& 2147483647) 5 5 rfl
  have ca_2 := c_mask i5 2147483647 31 (by decide) (by decide)
  have ca_3 := c_irem (i5 &&& 2147483647) 5 5 rfl
  try simp only [f2, f3, own_eqite, own_iteeq] at *
  try simp only [ne_eq, and_true, true_and, or_true, true_or, and_false, false_and, or_false, false_or, not_true_eq_false, not_false_eq_true, Int32.lt_iff_toInt_lt, Int64.lt_iff_toInt_lt, ← Int32.toInt_inj, ← Int64.toInt_inj, Int32.reduceToInt, Int64.reduceToInt] at *
  omega
set_option maxRecDepth 65536 in
set_option maxHeartbeats 40000000 in
theorem own_bad0 (i0 : Int32) (i1 : Int32) (i2 : Int32) (i3 : Int32) (i4 : Int32) (i5 : Int32) (sa : Addr) (sk : ClassId) (sd : Value) (v10 : Int32) (v11 : Int32) (v13 : Int32) (v15 : Int32) (v17 : Int32) (hv10 : v10 = ((i4 &&& (2147483647 : Int32)) % (5 : Int32))) (hv11 : v11 = ((i5 &&& (2147483647 : Int32)) % (5 : Int32))) (hv13 : v13 = (f2 v10 v11)) (hv15 : v15 = (f3 v10 v11)) (hv17 : v17 = (loopT (fun j => ([(nar .byte (f1 i0)), (nar .byte (f1 i1)), (nar .byte (f1 i2)), (nar .byte (f1 i3))].getD j.toNatClampNeg (0 : Int32))) (v15.toInt - v13.toInt).toNat v15)) (c84 : v17 < v13) : False := by
  have hft : 0 ≤ v13.toInt ∧ v13.toInt ≤ v15.toInt ∧ v15.toInt ≤ 4 := by
    clear hv17 c84
    have ca_0 := c_mask i4 2147483647 31 (by decide) (by decide)
    have ca_1 := c_irem (i4 &&& 2147483647) 5 5 rfl
    have ca_2 := c_mask i5 2147483647 31 (by decide) (by decide)
    have ca_3 := c_irem (i5 &&& 2147483647) 5 5 rfl
    try simp only [f2, f3, own_eqite, own_iteeq] at *
    try simp only [ne_eq, and_true, true_and, or_true, true_or, and_false, false_and, or_false, false_or, not_true_eq_false, not_false_eq_true, Int32.lt_iff_toInt_lt, Int64.lt_iff_toInt_lt, ← Int32.toInt_inj, ← Int64.toInt_inj, Int32.reduceToInt, Int64.reduceToInt] at *
    omega
  have F := own_fin (nar .byte (f1 i0)) (nar .byte (f1 i1)) (nar .byte (f1 i2)) (nar .byte (f1 i3)) v13 v15 v17 hft.1 hft.2.1 hft.2.2 hv17
  exact F.1 c84
set_option maxRecDepth 65536 in
set_option maxHeartbeats 40000000 in
theorem own_bad1 (i0 : Int32) (i1 : Int32) (i2 : Int32) (i3 : Int32) (i4 : Int32) (i5 : Int32) (sa : Addr) (sk : ClassId) (sd : Value) (v10 : Int32) (v11 : Int32) (v13 : Int32) (v15 : Int32) (v17 : Int32) (hv10 : v10 = ((i4 &&& (2147483647 : Int32)) % (5 : Int32))) (hv11 : v11 = ((i5 &&& (2147483647 : Int32)) % (5 : Int32))) (hv13 : v13 = (f2 v10 v11)) (hv15 : v15 = (f3 v10 v11)) (hv17 : v17 = (loopT (fun j => ([(nar .byte (f1 i0)), (nar .byte (f1 i1)), (nar .byte (f1 i2)), (nar .byte (f1 i3))].getD j.toNatClampNeg (0 : Int32))) (v15.toInt - v13.toInt).toNat v15)) (c84 : ¬ v17 < v13) (c91 : ¬ v15 < v17) (c100 : ¬ v13 < v17) (c128 : (f6 (0 : Int32) v17 v15 (nar .byte (f1 i0))) = (0 : Int32)) : False := by
  have hft : 0 ≤ v13.toInt ∧ v13.toInt ≤ v15.toInt ∧ v15.toInt ≤ 4 := by
    clear hv17 c84 c91 c100 c128
    have ca_0 := c_mask i4 2147483647 31 (by decide) (by decide)
    have ca_1 := c_irem (i4 &&& 2147483647) 5 5 rfl
    have ca_2 := c_mask i5 2147483647 31 (by decide) (by decide)
    have ca_3 := c_irem (i5 &&& 2147483647) 5 5 rfl
    try simp only [f2, f3, own_eqite, own_iteeq] at *
    try simp only [ne_eq, and_true, true_and, or_true, true_or, and_false, false_and, or_false, false_or, not_true_eq_false, not_false_eq_true, Int32.lt_iff_toInt_lt, Int64.lt_iff_toInt_lt, ← Int32.toInt_inj, ← Int64.toInt_inj, Int32.reduceToInt, Int64.reduceToInt] at *
    omega
  have F := own_fin (nar .byte (f1 i0)) (nar .byte (f1 i1)) (nar .byte (f1 i2)) (nar .byte (f1 i3)) v13 v15 v17 hft.1 hft.2.1 hft.2.2 hv17
  exact F.2.2.2.1 c128
set_option maxRecDepth 65536 in
set_option maxHeartbeats 40000000 in
theorem own_bad2 (i0 : Int32) (i1 : Int32) (i2 : Int32) (i3 : Int32) (i4 : Int32) (i5 : Int32) (sa : Addr) (sk : ClassId) (sd : Value) (v10 : Int32) (v11 : Int32) (v13 : Int32) (v15 : Int32) (v17 : Int32) (hv10 : v10 = ((i4 &&& (2147483647 : Int32)) % (5 : Int32))) (hv11 : v11 = ((i5 &&& (2147483647 : Int32)) % (5 : Int32))) (hv13 : v13 = (f2 v10 v11)) (hv15 : v15 = (f3 v10 v11)) (hv17 : v17 = (loopT (fun j => ([(nar .byte (f1 i0)), (nar .byte (f1 i1)), (nar .byte (f1 i2)), (nar .byte (f1 i3))].getD j.toNatClampNeg (0 : Int32))) (v15.toInt - v13.toInt).toNat v15)) (c84 : ¬ v17 < v13) (c91 : ¬ v15 < v17) (c100 : ¬ v13 < v17) (c128 : ¬ (f6 (0 : Int32) v17 v15 (nar .byte (f1 i0))) = (0 : Int32)) (c141 : (f6 (1 : Int32) v17 v15 (nar .byte (f1 i1))) = (0 : Int32)) : False := by
  have hft : 0 ≤ v13.toInt ∧ v13.toInt ≤ v15.toInt ∧ v15.toInt ≤ 4 := by
    clear hv17 c84 c91 c100 c128 c141
    have ca_0 := c_mask i4 2147483647 31 (by decide) (by decide)
    have ca_1 := c_irem (i4 &&& 2147483647) 5 5 rfl
    have ca_2 := c_mask i5 2147483647 31 (by decide) (by decide)
    have ca_3 := c_irem (i5 &&& 2147483647) 5 5 rfl
    try simp only [f2, f3, own_eqite, own_iteeq] at *
    try simp only [ne_eq, and_true, true_and, or_true, true_or, and_false, false_and, or_false, false_or, not_true_eq_false, not_false_eq_true, Int32.lt_iff_toInt_lt, Int64.lt_iff_toInt_lt, ← Int32.toInt_inj, ← Int64.toInt_inj, Int32.reduceToInt, Int64.reduceToInt] at *
    omega
  have F := own_fin (nar .byte (f1 i0)) (nar .byte (f1 i1)) (nar .byte (f1 i2)) (nar .byte (f1 i3)) v13 v15 v17 hft.1 hft.2.1 hft.2.2 hv17
  exact F.2.2.2.2.1 c141
set_option maxRecDepth 65536 in
set_option maxHeartbeats 40000000 in
theorem own_bad3 (i0 : Int32) (i1 : Int32) (i2 : Int32) (i3 : Int32) (i4 : Int32) (i5 : Int32) (sa : Addr) (sk : ClassId) (sd : Value) (v10 : Int32) (v11 : Int32) (v13 : Int32) (v15 : Int32) (v17 : Int32) (hv10 : v10 = ((i4 &&& (2147483647 : Int32)) % (5 : Int32))) (hv11 : v11 = ((i5 &&& (2147483647 : Int32)) % (5 : Int32))) (hv13 : v13 = (f2 v10 v11)) (hv15 : v15 = (f3 v10 v11)) (hv17 : v17 = (loopT (fun j => ([(nar .byte (f1 i0)), (nar .byte (f1 i1)), (nar .byte (f1 i2)), (nar .byte (f1 i3))].getD j.toNatClampNeg (0 : Int32))) (v15.toInt - v13.toInt).toNat v15)) (c84 : ¬ v17 < v13) (c91 : ¬ v15 < v17) (c100 : ¬ v13 < v17) (c128 : ¬ (f6 (0 : Int32) v17 v15 (nar .byte (f1 i0))) = (0 : Int32)) (c141 : ¬ (f6 (1 : Int32) v17 v15 (nar .byte (f1 i1))) = (0 : Int32)) (c154 : (f6 (2 : Int32) v17 v15 (nar .byte (f1 i2))) = (0 : Int32)) : False := by
  have hft : 0 ≤ v13.toInt ∧ v13.toInt ≤ v15.toInt ∧ v15.toInt ≤ 4 := by
    clear hv17 c84 c91 c100 c128 c141 c154
    have ca_0 := c_mask i4 2147483647 31 (by decide) (by decide)
    have ca_1 := c_irem (i4 &&& 2147483647) 5 5 rfl
    have ca_2 := c_mask i5 2147483647 31 (by decide) (by decide)
    have ca_3 := c_irem (i5 &&& 2147483647) 5 5 rfl
    try simp only [f2, f3, own_eqite, own_iteeq] at *
    try simp only [ne_eq, and_true, true_and, or_true, true_or, and_false, false_and, or_false, false_or, not_true_eq_false, not_false_eq_true, Int32.lt_iff_toInt_lt, Int64.lt_iff_toInt_lt, ← Int32.toInt_inj, ← Int64.toInt_inj, Int32.reduceToInt, Int64.reduceToInt] at *
    omega
  have F := own_fin (nar .byte (f1 i0)) (nar .byte (f1 i1)) (nar .byte (f1 i2)) (nar .byte (f1 i3)) v13 v15 v17 hft.1 hft.2.1 hft.2.2 hv17
  exact F.2.2.2.2.2.1 c154
set_option maxRecDepth 65536 in
set_option maxHeartbeats 40000000 in
theorem own_bad4 (i0 : Int32) (i1 : Int32) (i2 : Int32) (i3 : Int32) (i4 : Int32) (i5 : Int32) (sa : Addr) (sk : ClassId) (sd : Value) (v10 : Int32) (v11 : Int32) (v13 : Int32) (v15 : Int32) (v17 : Int32) (hv10 : v10 = ((i4 &&& (2147483647 : Int32)) % (5 : Int32))) (hv11 : v11 = ((i5 &&& (2147483647 : Int32)) % (5 : Int32))) (hv13 : v13 = (f2 v10 v11)) (hv15 : v15 = (f3 v10 v11)) (hv17 : v17 = (loopT (fun j => ([(nar .byte (f1 i0)), (nar .byte (f1 i1)), (nar .byte (f1 i2)), (nar .byte (f1 i3))].getD j.toNatClampNeg (0 : Int32))) (v15.toInt - v13.toInt).toNat v15)) (c84 : ¬ v17 < v13) (c91 : ¬ v15 < v17) (c100 : ¬ v13 < v17) (c128 : ¬ (f6 (0 : Int32) v17 v15 (nar .byte (f1 i0))) = (0 : Int32)) (c141 : ¬ (f6 (1 : Int32) v17 v15 (nar .byte (f1 i1))) = (0 : Int32)) (c154 : ¬ (f6 (2 : Int32) v17 v15 (nar .byte (f1 i2))) = (0 : Int32)) (c167 : (f6 (3 : Int32) v17 v15 (nar .byte (f1 i3))) = (0 : Int32)) : False := by
  have hft : 0 ≤ v13.toInt ∧ v13.toInt ≤ v15.toInt ∧ v15.toInt ≤ 4 := by
    clear hv17 c84 c91 c100 c128 c141 c154 c167
    have ca_0 := c_mask i4 2147483647 31 (by decide) (by decide)
    have ca_1 := c_irem (i4 &&& 2147483647) 5 5 rfl
    have ca_2 := c_mask i5 2147483647 31 (by decide) (by decide)
    have ca_3 := c_irem (i5 &&& 2147483647) 5 5 rfl
    try simp only [f2, f3, own_eqite, own_iteeq] at *
    try simp only [ne_eq, and_true, true_and, or_true, true_or, and_false, false_and, or_false, false_or, not_true_eq_false, not_false_eq_true, Int32.lt_iff_toInt_lt, Int64.lt_iff_toInt_lt, ← Int32.toInt_inj, ← Int64.toInt_inj, Int32.reduceToInt, Int64.reduceToInt] at *
    omega
  have F := own_fin (nar .byte (f1 i0)) (nar .byte (f1 i1)) (nar .byte (f1 i2)) (nar .byte (f1 i3)) v13 v15 v17 hft.1 hft.2.1 hft.2.2 hv17
  exact F.2.2.2.2.2.2 c167
set_option maxRecDepth 65536 in
set_option maxHeartbeats 40000000 in
theorem own_pre2 (i0 : Int32) (i1 : Int32) (i2 : Int32) (i3 : Int32) (i4 : Int32) (i5 : Int32) (sa : Addr) (sk : ClassId) (sd : Value) (v10 : Int32) (v11 : Int32) (v13 : Int32) (v15 : Int32) (v17 : Int32) (hv10 : v10 = ((i4 &&& (2147483647 : Int32)) % (5 : Int32))) (hv11 : v11 = ((i5 &&& (2147483647 : Int32)) % (5 : Int32))) (hv13 : v13 = (f2 v10 v11)) (hv15 : v15 = (f3 v10 v11)) (hv17 : v17 = (loopT (fun j => ([(nar .byte (f1 i0)), (nar .byte (f1 i1)), (nar .byte (f1 i2)), (nar .byte (f1 i3))].getD j.toNatClampNeg (0 : Int32))) (v15.toInt - v13.toInt).toNat v15)) (c84 : ¬ v17 < v13) (c91 : ¬ v15 < v17) (c100 : v13 < v17) : ¬ (v17 - (1 : Int32)) < (0 : Int32) ∧ (v17 - (1 : Int32)) < (4 : Int32) := by
  clear hv17
  have ca_0 := c_mask i4 2147483647 31 (by decide) (by decide)
  have ca_1 := c_irem (i4 &&& 2147483647) 5 5 rfl
  have ca_2 := c_mask i5 2147483647 31 (by decide) (by decide)
  have ca_3 := c_irem (i5 &&& 2147483647) 5 5 rfl
  have ca_4 := c_isub v17 1
  have bl_0 := (v17).le_toInt; have bu_0 := (v17).toInt_lt
  have bl_1 := (v17 - 1).le_toInt; have bu_1 := (v17 - 1).toInt_lt
  try simp only [f2, f3, own_eqite, own_iteeq] at *
  try simp only [ne_eq, and_true, true_and, or_true, true_or, and_false, false_and, or_false, false_or, not_true_eq_false, not_false_eq_true, Int32.lt_iff_toInt_lt, Int64.lt_iff_toInt_lt, ← Int32.toInt_inj, ← Int64.toInt_inj, Int32.reduceToInt, Int64.reduceToInt] at *
  omega
set_option maxRecDepth 65536 in
set_option maxHeartbeats 40000000 in
theorem own_bad5 (i0 : Int32) (i1 : Int32) (i2 : Int32) (i3 : Int32) (i4 : Int32) (i5 : Int32) (sa : Addr) (sk : ClassId) (sd : Value) (v10 : Int32) (v11 : Int32) (v13 : Int32) (v15 : Int32) (v17 : Int32) (hv10 : v10 = ((i4 &&& (2147483647 : Int32)) % (5 : Int32))) (hv11 : v11 = ((i5 &&& (2147483647 : Int32)) % (5 : Int32))) (hv13 : v13 = (f2 v10 v11)) (hv15 : v15 = (f3 v10 v11)) (hv17 : v17 = (loopT (fun j => ([(nar .byte (f1 i0)), (nar .byte (f1 i1)), (nar .byte (f1 i2)), (nar .byte (f1 i3))].getD j.toNatClampNeg (0 : Int32))) (v15.toInt - v13.toInt).toNat v15)) (c84 : ¬ v17 < v13) (c91 : ¬ v15 < v17) (c100 : v13 < v17) (c113 : (f5 ([(nar .byte (f1 i0)), (nar .byte (f1 i1)), (nar .byte (f1 i2)), (nar .byte (f1 i3))].getD ((v17 - (1 : Int32))).toNatClampNeg (0 : Int32))) = (0 : Int32)) (c128 : (f6 (0 : Int32) v17 v15 (nar .byte (f1 i0))) = (0 : Int32)) : False := by
  have hft : 0 ≤ v13.toInt ∧ v13.toInt ≤ v15.toInt ∧ v15.toInt ≤ 4 := by
    clear hv17 c84 c91 c100 c113 c128
    have ca_0 := c_mask i4 2147483647 31 (by decide) (by decide)
    have ca_1 := c_irem (i4 &&& 2147483647) 5 5 rfl
    have ca_2 := c_mask i5 2147483647 31 (by decide) (by decide)
    have ca_3 := c_irem (i5 &&& 2147483647) 5 5 rfl
    try simp only [f2, f3, own_eqite, own_iteeq] at *
    try simp only [ne_eq, and_true, true_and, or_true, true_or, and_false, false_and, or_false, false_or, not_true_eq_false, not_false_eq_true, Int32.lt_iff_toInt_lt, Int64.lt_iff_toInt_lt, ← Int32.toInt_inj, ← Int64.toInt_inj, Int32.reduceToInt, Int64.reduceToInt] at *
    omega
  have F := own_fin (nar .byte (f1 i0)) (nar .byte (f1 i1)) (nar .byte (f1 i2)) (nar .byte (f1 i3)) v13 v15 v17 hft.1 hft.2.1 hft.2.2 hv17
  exact F.2.2.2.1 c128
set_option maxRecDepth 65536 in
set_option maxHeartbeats 40000000 in
theorem own_bad6 (i0 : Int32) (i1 : Int32) (i2 : Int32) (i3 : Int32) (i4 : Int32) (i5 : Int32) (sa : Addr) (sk : ClassId) (sd : Value) (v10 : Int32) (v11 : Int32) (v13 : Int32) (v15 : Int32) (v17 : Int32) (hv10 : v10 = ((i4 &&& (2147483647 : Int32)) % (5 : Int32))) (hv11 : v11 = ((i5 &&& (2147483647 : Int32)) % (5 : Int32))) (hv13 : v13 = (f2 v10 v11)) (hv15 : v15 = (f3 v10 v11)) (hv17 : v17 = (loopT (fun j => ([(nar .byte (f1 i0)), (nar .byte (f1 i1)), (nar .byte (f1 i2)), (nar .byte (f1 i3))].getD j.toNatClampNeg (0 : Int32))) (v15.toInt - v13.toInt).toNat v15)) (c84 : ¬ v17 < v13) (c91 : ¬ v15 < v17) (c100 : v13 < v17) (c113 : (f5 ([(nar .byte (f1 i0)), (nar .byte (f1 i1)), (nar .byte (f1 i2)), (nar .byte (f1 i3))].getD ((v17 - (1 : Int32))).toNatClampNeg (0 : Int32))) = (0 : Int32)) (c128 : ¬ (f6 (0 : Int32) v17 v15 (nar .byte (f1 i0))) = (0 : Int32)) (c141 : (f6 (1 : Int32) v17 v15 (nar .byte (f1 i1))) = (0 : Int32)) : False := by
  have hft : 0 ≤ v13.toInt ∧ v13.toInt ≤ v15.toInt ∧ v15.toInt ≤ 4 := by
    clear hv17 c84 c91 c100 c113 c128 c141
    have ca_0 := c_mask i4 2147483647 31 (by decide) (by decide)
    have ca_1 := c_irem (i4 &&& 2147483647) 5 5 rfl
    have ca_2 := c_mask i5 2147483647 31 (by decide) (by decide)
    have ca_3 := c_irem (i5 &&& 2147483647) 5 5 rfl
    try simp only [f2, f3, own_eqite, own_iteeq] at *
    try simp only [ne_eq, and_true, true_and, or_true, true_or, and_false, false_and, or_false, false_or, not_true_eq_false, not_false_eq_true, Int32.lt_iff_toInt_lt, Int64.lt_iff_toInt_lt, ← Int32.toInt_inj, ← Int64.toInt_inj, Int32.reduceToInt, Int64.reduceToInt] at *
    omega
  have F := own_fin (nar .byte (f1 i0)) (nar .byte (f1 i1)) (nar .byte (f1 i2)) (nar .byte (f1 i3)) v13 v15 v17 hft.1 hft.2.1 hft.2.2 hv17
  exact F.2.2.2.2.1 c141
set_option maxRecDepth 65536 in
set_option maxHeartbeats 40000000 in
theorem own_bad7 (i0 : Int32) (i1 : Int32) (i2 : Int32) (i3 : Int32) (i4 : Int32) (i5 : Int32) (sa : Addr) (sk : ClassId) (sd : Value) (v10 : Int32) (v11 : Int32) (v13 : Int32) (v15 : Int32) (v17 : Int32) (hv10 : v10 = ((i4 &&& (2147483647 : Int32)) % (5 : Int32))) (hv11 : v11 = ((i5 &&& (2147483647 : Int32)) % (5 : Int32))) (hv13 : v13 = (f2 v10 v11)) (hv15 : v15 = (f3 v10 v11)) (hv17 : v17 = (loopT (fun j => ([(nar .byte (f1 i0)), (nar .byte (f1 i1)), (nar .byte (f1 i2)), (nar .byte (f1 i3))].getD j.toNatClampNeg (0 : Int32))) (v15.toInt - v13.toInt).toNat v15)) (c84 : ¬ v17 < v13) (c91 : ¬ v15 < v17) (c100 : v13 < v17) (c113 : (f5 ([(nar .byte (f1 i0)), (nar .byte (f1 i1)), (nar .byte (f1 i2)), (nar .byte (f1 i3))].getD ((v17 - (1 : Int32))).toNatClampNeg (0 : Int32))) = (0 : Int32)) (c128 : ¬ (f6 (0 : Int32) v17 v15 (nar .byte (f1 i0))) = (0 : Int32)) (c141 : ¬ (f6 (1 : Int32) v17 v15 (nar .byte (f1 i1))) = (0 : Int32)) (c154 : (f6 (2 : Int32) v17 v15 (nar .byte (f1 i2))) = (0 : Int32)) : False := by
  have hft : 0 ≤ v13.toInt ∧ v13.toInt ≤ v15.toInt ∧ v15.toInt ≤ 4 := by
    clear hv17 c84 c91 c100 c113 c128 c141 c154
    have ca_0 := c_mask i4 2147483647 31 (by decide) (by decide)
    have ca_1 := c_irem (i4 &&& 2147483647) 5 5 rfl
    have ca_2 := c_mask i5 2147483647 31 (by decide) (by decide)
    have ca_3 := c_irem (i5 &&& 2147483647) 5 5 rfl
    try simp only [f2, f3, own_eqite, own_iteeq] at *
    try simp only [ne_eq, and_true, true_and, or_true, true_or, and_false, false_and, or_false, false_or, not_true_eq_false, not_false_eq_true, Int32.lt_iff_toInt_lt, Int64.lt_iff_toInt_lt, ← Int32.toInt_inj, ← Int64.toInt_inj, Int32.reduceToInt, Int64.reduceToInt] at *
    omega
  have F := own_fin (nar .byte (f1 i0)) (nar .byte (f1 i1)) (nar .byte (f1 i2)) (nar .byte (f1 i3)) v13 v15 v17 hft.1 hft.2.1 hft.2.2 hv17
  exact F.2.2.2.2.2.1 c154
set_option maxRecDepth 65536 in
set_option maxHeartbeats 40000000 in
theorem own_bad8 (i0 : Int32) (i1 : Int32) (i2 : Int32) (i3 : Int32) (i4 : Int32) (i5 : Int32) (sa : Addr) (sk : ClassId) (sd : Value) (v10 : Int32) (v11 : Int32) (v13 : Int32) (v15 : Int32) (v17 : Int32) (hv10 : v10 = ((i4 &&& (2147483647 : Int32)) % (5 : Int32))) (hv11 : v11 = ((i5 &&& (2147483647 : Int32)) % (5 : Int32))) (hv13 : v13 = (f2 v10 v11)) (hv15 : v15 = (f3 v10 v11)) (hv17 : v17 = (loopT (fun j => ([(nar .byte (f1 i0)), (nar .byte (f1 i1)), (nar .byte (f1 i2)), (nar .byte (f1 i3))].getD j.toNatClampNeg (0 : Int32))) (v15.toInt - v13.toInt).toNat v15)) (c84 : ¬ v17 < v13) (c91 : ¬ v15 < v17) (c100 : v13 < v17) (c113 : (f5 ([(nar .byte (f1 i0)), (nar .byte (f1 i1)), (nar .byte (f1 i2)), (nar .byte (f1 i3))].getD ((v17 - (1 : Int32))).toNatClampNeg (0 : Int32))) = (0 : Int32)) (c128 : ¬ (f6 (0 : Int32) v17 v15 (nar .byte (f1 i0))) = (0 : Int32)) (c141 : ¬ (f6 (1 : Int32) v17 v15 (nar .byte (f1 i1))) = (0 : Int32)) (c154 : ¬ (f6 (2 : Int32) v17 v15 (nar .byte (f1 i2))) = (0 : Int32)) (c167 : (f6 (3 : Int32) v17 v15 (nar .byte (f1 i3))) = (0 : Int32)) : False := by
  have hft : 0 ≤ v13.toInt ∧ v13.toInt ≤ v15.toInt ∧ v15.toInt ≤ 4 := by
    clear hv17 c84 c91 c100 c113 c128 c141 c154 c167
    have ca_0 := c_mask i4 2147483647 31 (by decide) (by decide)
    have ca_1 := c_irem (i4 &&& 2147483647) 5 5 rfl
    have ca_2 := c_mask i5 2147483647 31 (by decide) (by decide)
    have ca_3 := c_irem (i5 &&& 2147483647) 5 5 rfl
    try simp only [f2, f3, own_eqite, own_iteeq] at *
    try simp only [ne_eq, and_true, true_and, or_true, true_or, and_false, false_and, or_false, false_or, not_true_eq_false, not_false_eq_true, Int32.lt_iff_toInt_lt, Int64.lt_iff_toInt_lt, ← Int32.toInt_inj, ← Int64.toInt_inj, Int32.reduceToInt, Int64.reduceToInt] at *
    omega
  have F := own_fin (nar .byte (f1 i0)) (nar .byte (f1 i1)) (nar .byte (f1 i2)) (nar .byte (f1 i3)) v13 v15 v17 hft.1 hft.2.1 hft.2.2 hv17
  exact F.2.2.2.2.2.2 c167
set_option maxRecDepth 65536 in
set_option maxHeartbeats 40000000 in
theorem own_bad9 (i0 : Int32) (i1 : Int32) (i2 : Int32) (i3 : Int32) (i4 : Int32) (i5 : Int32) (sa : Addr) (sk : ClassId) (sd : Value) (v10 : Int32) (v11 : Int32) (v13 : Int32) (v15 : Int32) (v17 : Int32) (hv10 : v10 = ((i4 &&& (2147483647 : Int32)) % (5 : Int32))) (hv11 : v11 = ((i5 &&& (2147483647 : Int32)) % (5 : Int32))) (hv13 : v13 = (f2 v10 v11)) (hv15 : v15 = (f3 v10 v11)) (hv17 : v17 = (loopT (fun j => ([(nar .byte (f1 i0)), (nar .byte (f1 i1)), (nar .byte (f1 i2)), (nar .byte (f1 i3))].getD j.toNatClampNeg (0 : Int32))) (v15.toInt - v13.toInt).toNat v15)) (c84 : ¬ v17 < v13) (c91 : ¬ v15 < v17) (c100 : v13 < v17) (c113 : ¬ (f5 ([(nar .byte (f1 i0)), (nar .byte (f1 i1)), (nar .byte (f1 i2)), (nar .byte (f1 i3))].getD ((v17 - (1 : Int32))).toNatClampNeg (0 : Int32))) = (0 : Int32)) : False := by
  have hft : 0 ≤ v13.toInt ∧ v13.toInt ≤ v15.toInt ∧ v15.toInt ≤ 4 := by
    clear hv17 c84 c91 c100 c113
    have ca_0 := c_mask i4 2147483647 31 (by decide) (by decide)
    have ca_1 := c_irem (i4 &&& 2147483647) 5 5 rfl
    have ca_2 := c_mask i5 2147483647 31 (by decide) (by decide)
    have ca_3 := c_irem (i5 &&& 2147483647) 5 5 rfl
    try simp only [f2, f3, own_eqite, own_iteeq] at *
    try simp only [ne_eq, and_true, true_and, or_true, true_or, and_false, false_and, or_false, false_or, not_true_eq_false, not_false_eq_true, Int32.lt_iff_toInt_lt, Int64.lt_iff_toInt_lt, ← Int32.toInt_inj, ← Int64.toInt_inj, Int32.reduceToInt, Int64.reduceToInt] at *
    omega
  have F := own_fin (nar .byte (f1 i0)) (nar .byte (f1 i1)) (nar .byte (f1 i2)) (nar .byte (f1 i3)) v13 v15 v17 hft.1 hft.2.1 hft.2.2 hv17
  exact c113 (F.2.2.1 c100)
set_option maxRecDepth 65536 in
set_option maxHeartbeats 40000000 in
theorem own_bad10 (i0 : Int32) (i1 : Int32) (i2 : Int32) (i3 : Int32) (i4 : Int32) (i5 : Int32) (sa : Addr) (sk : ClassId) (sd : Value) (v10 : Int32) (v11 : Int32) (v13 : Int32) (v15 : Int32) (v17 : Int32) (hv10 : v10 = ((i4 &&& (2147483647 : Int32)) % (5 : Int32))) (hv11 : v11 = ((i5 &&& (2147483647 : Int32)) % (5 : Int32))) (hv13 : v13 = (f2 v10 v11)) (hv15 : v15 = (f3 v10 v11)) (hv17 : v17 = (loopT (fun j => ([(nar .byte (f1 i0)), (nar .byte (f1 i1)), (nar .byte (f1 i2)), (nar .byte (f1 i3))].getD j.toNatClampNeg (0 : Int32))) (v15.toInt - v13.toInt).toNat v15)) (c84 : ¬ v17 < v13) (c91 : v15 < v17) : False := by
  have hft : 0 ≤ v13.toInt ∧ v13.toInt ≤ v15.toInt ∧ v15.toInt ≤ 4 := by
    clear hv17 c84 c91
    have ca_0 := c_mask i4 2147483647 31 (by decide) (by decide)
    have ca_1 := c_irem (i4 &&& 2147483647) 5 5 rfl
    have ca_2 := c_mask i5 2147483647 31 (by decide) (by decide)
    have ca_3 := c_irem (i5 &&& 2147483647) 5 5 rfl
    try simp only [f2, f3, own_eqite, own_iteeq] at *
    try simp only [ne_eq, and_true, true_and, or_true, true_or, and_false, false_and, or_false, false_or, not_true_eq_false, not_false_eq_true, Int32.lt_iff_toInt_lt, Int64.lt_iff_toInt_lt, ← Int32.toInt_inj, ← Int64.toInt_inj, Int32.reduceToInt, Int64.reduceToInt] at *
    omega
  have F := own_fin (nar .byte (f1 i0)) (nar .byte (f1 i1)) (nar .byte (f1 i2)) (nar .byte (f1 i3)) v13 v15 v17 hft.1 hft.2.1 hft.2.2 hv17
  exact F.2.1 c91
theorem pn0 : plainName "com/example/leeway/leeway/service/HeaderFieldsTrimmedEndPinLaw" = true := by first | (simp [plainName, overriddenIn]; done) | decide +kernel
theorem ef0 (m : MethodId) (i0 : Int32) (i1 : Int32) (i2 : Int32) (i3 : Int32) (i4 : Int32) (i5 : Int32) : entryFrame m #[(.int i0), (.int i1), (.int i2), (.int i3), (.int i4), (.int i5)] maxLocals = mkF m 0 #[.val (.int i0), .val (.int i1), .val (.int i2), .val (.int i3), .val (.int i4), .val (.int i5), .unset, .unset, .unset, .unset, .unset, .unset] [] := by first | (simp [entryFrame, mkF, argsToLocals, Value.category, maxLocals]; done) | rfl
set_option maxRecDepth 65536 in
set_option maxHeartbeats 40000000 in
theorem rm0 (l : Launch) (Z : State) (a0 : Array Value) (hw : ∀ d ∈ tables_1, d.before a0 Z = true) (i0 : Int32) (i1 : Int32) (i2 : Int32) (i3 : Int32) (i4 : Int32) (i5 : Int32) (sa : Addr) (sk : ClassId) (sd : Value) (h0 : Heap) (n0 : Nat) (Z0 : n0 ≤ h0.size) (S_SPACE : Sta Z h0 "com/example/leeway/leeway/service/HeaderFields" "SPACE" "[Z" (.ref sa)) (V_sa : Arv Z h0 sa sk .boolean (256 : Int32) own_spl sd) :
    Ctr l Z x code maxLocals ret room_1 #[(.int i0), (.int i1), (.int i2), (.int i3), (.int i4), (.int i5)] h0 n0 (fun v _ => v = some (.int (1 : Int32))) := by
  refine Ctr.body (L := #[.val (.int i0), .val (.int i1), .val (.int i2), .val (.int i3), .val (.int i4), .val (.int i5), .unset, .unset, .unset, .unset, .unset, .unset]) (plainFor_of_name pn0) Z0 (fun m => ef0 m i0 i1 i2 i3 i4 i5) ?_
  intro p e F m below meth c T0 C0
  refine C0.iconst (4 : Int32) at_0 rfl rfl ?_
  refine C0.newarr (hw _ (List.mem_of_getElem? (i := 0) rfl)) 4 (by decide) (by decide) (by decide) (by decide) (by decide) at_1 rfl (fun T1 h1 b1 k1 C1 e1 g_b1 E1 V_b1 => ?_)
  have ne_sa_b1 : sa ≠ b1 := Nat.ne_of_lt (Nat.lt_of_lt_of_eq V_sa.lt e1.symm)
  have S_SPACE := S_SPACE.ext E1
  have V_sa := V_sa.ext E1
  have V_b1 : Arv Z h1 b1 k1 .byte (4 : Int32) [(.int (0 : Int32)), (.int (0 : Int32)), (.int (0 : Int32)), (.int (0 : Int32))] (.int (0 : Int32)) := V_b1
  refine C1.dup at_3 rfl rfl ?_
  refine C1.iconst (0 : Int32) at_4 rfl rfl ?_
  refine C1.iloadN at_5 rfl rfl ?_
  refine C1.callS (hw _ (List.mem_of_getElem? (i := 1) rfl)) (hw _ (List.mem_of_getElem? (i := 2) rfl)) (hw _ (List.mem_of_getElem? (i := 3) rfl)) (hw _ (List.mem_of_getElem? (i := 4) rfl)) (by decide) (rm1 l Z a0 hw i0 h1 n0 C1.size ) (argsL := [(.int i0)]) pd1 rfl 3 (by decide) (by decide) (by decide) (by decide) (rest := [(.int (0 : Int32)), (.ref b1), (.ref b1)]) rfl rfl (Nat.le_of_eq rfl) at_6 rfl (fun v2 T2 h2 C2 qq2 => ?_)
  obtain ⟨rfl, hh2⟩ := qq2
  have hh2 := hh2.symm; subst hh2
  show Go p e below F n0 (fun v _ => v = some (.int (1 : Int32))) T2 (mkF m 9 #[.val (.int i0), .val (.int i1), .val (.int i2), .val (.int i3), .val (.int i4), .val (.int i5), .unset, .unset, .unset, .unset, .unset, .unset] [(.int (f1 i0)), (.int (0 : Int32)), (.ref b1), (.ref b1)])
  refine C2.bastore V_b1 ⟨by decide, by decide⟩ (Nat.le_of_ble_eq_true rfl) g_b1 at_9 rfl (fun T3 h3 C3 W3 Vn3 => ?_)
  have S_SPACE := S_SPACE.wr W3
  have V_sa := V_sa.other W3 ne_sa_b1
  have V_b1 : Arv Z h3 b1 k1 .byte (4 : Int32) [(.int (nar .byte (f1 i0))), (.int (0 : Int32)), (.int (0 : Int32)), (.int (0 : Int32))] (.int (0 : Int32)) := Vn3
  refine C3.dup at_10 rfl rfl ?_
  refine C3.iconst (1 : Int32) at_11 rfl rfl ?_
  refine C3.iloadN at_12 rfl rfl ?_
  refine C3.callS (hw _ (List.mem_of_getElem? (i := 1) rfl)) (hw _ (List.mem_of_getElem? (i := 2) rfl)) (hw _ (List.mem_of_getElem? (i := 3) rfl)) (hw _ (List.mem_of_getElem? (i := 4) rfl)) (by decide) (rm1 l Z a0 hw i1 h3 n0 C3.size ) (argsL := [(.int i1)]) pd1 rfl 3 (by decide) (by decide) (by decide) (by decide) (rest := [(.int (1 : Int32)), (.ref b1), (.ref b1)]) rfl rfl (Nat.le_of_eq rfl) at_13 rfl (fun v4 T4 h4 C4 qq4 => ?_)
  obtain ⟨rfl, hh4⟩ := qq4
  have hh4 := hh4.symm; subst hh4
  show Go p e below F n0 (fun v _ => v = some (.int (1 : Int32))) T4 (mkF m 16 #[.val (.int i0), .val (.int i1), .val (.int i2), .val (.int i3), .val (.int i4), .val (.int i5), .unset, .unset, .unset, .unset, .unset, .unset] [(.int (f1 i1)), (.int (1 : Int32)), (.ref b1), (.ref b1)])
  refine C4.bastore V_b1 ⟨by decide, by decide⟩ (Nat.le_of_ble_eq_true rfl) g_b1 at_16 rfl (fun T5 h5 C5 W5 Vn5 => ?_)
  have S_SPACE := S_SPACE.wr W5
  have V_sa := V_sa.other W5 ne_sa_b1
  have V_b1 : Arv Z h5 b1 k1 .byte (4 : Int32) [(.int (nar .byte (f1 i0))), (.int (nar .byte (f1 i1))), (.int (0 : Int32)), (.int (0 : Int32))] (.int (0 : Int32)) := Vn5
  refine C5.dup at_17 rfl rfl ?_
  refine C5.iconst (2 : Int32) at_18 rfl rfl ?_
  refine C5.iloadN at_19 rfl rfl ?_
  refine C5.callS (hw _ (List.mem_of_getElem? (i := 1) rfl)) (hw _ (List.mem_of_getElem? (i := 2) rfl)) (hw _ (List.mem_of_getElem? (i := 3) rfl)) (hw _ (List.mem_of_getElem? (i := 4) rfl)) (by decide) (rm1 l Z a0 hw i2 h5 n0 C5.size ) (argsL := [(.int i2)]) pd1 rfl 3 (by decide) (by decide) (by decide) (by decide) (rest := [(.int (2 : Int32)), (.ref b1), (.ref b1)]) rfl rfl (Nat.le_of_eq rfl) at_20 rfl (fun v6 T6 h6 C6 qq6 => ?_)
  obtain ⟨rfl, hh6⟩ := qq6
  have hh6 := hh6.symm; subst hh6
  show Go p e below F n0 (fun v _ => v = some (.int (1 : Int32))) T6 (mkF m 23 #[.val (.int i0), .val (.int i1), .val (.int i2), .val (.int i3), .val (.int i4), .val (.int i5), .unset, .unset, .unset, .unset, .unset, .unset] [(.int (f1 i2)), (.int (2 : Int32)), (.ref b1), (.ref b1)])
  refine C6.bastore V_b1 ⟨by decide, by decide⟩ (Nat.le_of_ble_eq_true rfl) g_b1 at_23 rfl (fun T7 h7 C7 W7 Vn7 => ?_)
  have S_SPACE := S_SPACE.wr W7
  have V_sa := V_sa.other W7 ne_sa_b1
  have V_b1 : Arv Z h7 b1 k1 .byte (4 : Int32) [(.int (nar .byte (f1 i0))), (.int (nar .byte (f1 i1))), (.int (nar .byte (f1 i2))), (.int (0 : Int32))] (.int (0 : Int32)) := Vn7
  refine C7.dup at_24 rfl rfl ?_
  refine C7.iconst (3 : Int32) at_25 rfl rfl ?_
  refine C7.iloadN at_26 rfl rfl ?_
  refine C7.callS (hw _ (List.mem_of_getElem? (i := 1) rfl)) (hw _ (List.mem_of_getElem? (i := 2) rfl)) (hw _ (List.mem_of_getElem? (i := 3) rfl)) (hw _ (List.mem_of_getElem? (i := 4) rfl)) (by decide) (rm1 l Z a0 hw i3 h7 n0 C7.size ) (argsL := [(.int i3)]) pd1 rfl 3 (by decide) (by decide) (by decide) (by decide) (rest := [(.int (3 : Int32)), (.ref b1), (.ref b1)]) rfl rfl (Nat.le_of_eq rfl) at_27 rfl (fun v8 T8 h8 C8 qq8 => ?_)
  obtain ⟨rfl, hh8⟩ := qq8
  have hh8 := hh8.symm; subst hh8
  show Go p e below F n0 (fun v _ => v = some (.int (1 : Int32))) T8 (mkF m 30 #[.val (.int i0), .val (.int i1), .val (.int i2), .val (.int i3), .val (.int i4), .val (.int i5), .unset, .unset, .unset, .unset, .unset, .unset] [(.int (f1 i3)), (.int (3 : Int32)), (.ref b1), (.ref b1)])
  refine C8.bastore V_b1 ⟨by decide, by decide⟩ (Nat.le_of_ble_eq_true rfl) g_b1 at_30 rfl (fun T9 h9 C9 W9 Vn9 => ?_)
  have S_SPACE := S_SPACE.wr W9
  have V_sa := V_sa.other W9 ne_sa_b1
  have V_b1 : Arv Z h9 b1 k1 .byte (4 : Int32) [(.int (nar .byte (f1 i0))), (.int (nar .byte (f1 i1))), (.int (nar .byte (f1 i2))), (.int (nar .byte (f1 i3)))] (.int (0 : Int32)) := Vn9
  refine C9.astore at_31 rfl rfl (L' := #[.val (.int i0), .val (.int i1), .val (.int i2), .val (.int i3), .val (.int i4), .val (.int i5), .val (.ref b1), .unset, .unset, .unset, .unset, .unset]) rfl ?_
  refine C9.iload at_33 rfl rfl ?_
  refine C9.ldc (hw _ (List.mem_of_getElem? (i := 5) rfl)) at_35 rfl ?_
  refine C9.iand at_37 rfl ?_
  refine C9.iconst (5 : Int32) at_38 rfl rfl ?_
  refine C9.irem at_39 rfl (by decide) ?_
  refine C9.istoreV (fun v => #[.val (.int i0), .val (.int i1), .val (.int i2), .val (.int i3), .val (.int i4), .val (.int i5), .val (.ref b1), .val (.int v), .unset, .unset, .unset, .unset]) at_40 rfl (fun _ => rfl) (fun v10 hv10 => ?_)
  refine C9.iload at_42 rfl rfl ?_
  refine C9.ldc (hw _ (List.mem_of_getElem? (i := 5) rfl)) at_44 rfl ?_
  refine C9.iand at_46 rfl ?_
  refine C9.iconst (5 : Int32) at_47 rfl rfl ?_
  refine C9.irem at_48 rfl (by decide) ?_
  refine C9.istoreV (fun v => #[.val (.int i0), .val (.int i1), .val (.int i2), .val (.int i3), .val (.int i4), .val (.int i5), .val (.ref b1), .val (.int v10), .val (.int v), .unset, .unset, .unset]) at_49 rfl (fun _ => rfl) (fun v11 hv11 => ?_)
  refine C9.iload at_51 rfl rfl ?_
  refine C9.iload at_53 rfl rfl ?_
  refine C9.callS (hw _ (List.mem_of_getElem? (i := 6) rfl)) (hw _ (List.mem_of_getElem? (i := 7) rfl)) (hw _ (List.mem_of_getElem? (i := 8) rfl)) (hw _ (List.mem_of_getElem? (i := 9) rfl)) (by decide) (rm2 l Z a0 hw v10 v11 h9 n0 C9.size ) (argsL := [(.int v10), (.int v11)]) pd2 rfl 0 (by decide) (by decide) (by decide) (by decide) (rest := []) rfl rfl (Nat.le_of_eq rfl) at_55 rfl (fun v12 T12 h12 C12 qq12 => ?_)
  obtain ⟨rfl, hh12⟩ := qq12
  have hh12 := hh12.symm; subst hh12
  show Go p e below F n0 (fun v _ => v = some (.int (1 : Int32))) T12 (mkF m 58 #[.val (.int i0), .val (.int i1), .val (.int i2), .val (.int i3), .val (.int i4), .val (.int i5), .val (.ref b1), .val (.int v10), .val (.int v11), .unset, .unset, .unset] [(.int (f2 v10 v11))])
  refine C12.istoreV (fun v => #[.val (.int i0), .val (.int i1), .val (.int i2), .val (.int i3), .val (.int i4), .val (.int i5), .val (.ref b1), .val (.int v10), .val (.int v11), .val (.int v), .unset, .unset]) at_58 rfl (fun _ => rfl) (fun v13 hv13 => ?_)
  refine C12.iload at_60 rfl rfl ?_
  refine C12.iload at_62 rfl rfl ?_
  refine C12.callS (hw _ (List.mem_of_getElem? (i := 10) rfl)) (hw _ (List.mem_of_getElem? (i := 11) rfl)) (hw _ (List.mem_of_getElem? (i := 8) rfl)) (hw _ (List.mem_of_getElem? (i := 12) rfl)) (by decide) (rm3 l Z a0 hw v10 v11 h9 n0 C12.size ) (argsL := [(.int v10), (.int v11)]) pd3 rfl 0 (by decide) (by decide) (by decide) (by decide) (rest := []) rfl rfl (Nat.le_of_eq rfl) at_64 rfl (fun v14 T14 h14 C14 qq14 => ?_)
  obtain ⟨rfl, hh14⟩ := qq14
  have hh14 := hh14.symm; subst hh14
  show Go p e below F n0 (fun v _ => v = some (.int (1 : Int32))) T14 (mkF m 67 #[.val (.int i0), .val (.int i1), .val (.int i2), .val (.int i3), .val (.int i4), .val (.int i5), .val (.ref b1), .val (.int v10), .val (.int v11), .val (.int v13), .unset, .unset] [(.int (f3 v10 v11))])
  refine C14.istoreV (fun v => #[.val (.int i0), .val (.int i1), .val (.int i2), .val (.int i3), .val (.int i4), .val (.int i5), .val (.ref b1), .val (.int v10), .val (.int v11), .val (.int v13), .val (.int v), .unset]) at_67 rfl (fun _ => rfl) (fun v15 hv15 => ?_)
  refine C14.aload at_69 rfl rfl rfl ?_
  refine C14.iload at_71 rfl rfl ?_
  refine C14.iload at_73 rfl rfl ?_
  refine C14.callS (hw _ (List.mem_of_getElem? (i := 13) rfl)) (hw _ (List.mem_of_getElem? (i := 14) rfl)) (hw _ (List.mem_of_getElem? (i := 15) rfl)) (hw _ (List.mem_of_getElem? (i := 16) rfl)) (by decide) (rm4 l Z a0 hw b1 v13 v15 k1 (4 : Int32) [(.int (nar .byte (f1 i0))), (.int (nar .byte (f1 i1))), (.int (nar .byte (f1 i2))), (.int (nar .byte (f1 i3)))] (.int (0 : Int32)) sa sk sd (fun j => ([(nar .byte (f1 i0)), (nar .byte (f1 i1)), (nar .byte (f1 i2)), (nar .byte (f1 i3))].getD j.toNatClampNeg (0 : Int32))) h9 n0 C14.size V_b1 S_SPACE V_sa (fun j _ => own_getI [(nar .byte (f1 i0)), (nar .byte (f1 i1)), (nar .byte (f1 i2)), (nar .byte (f1 i3))] _) (own_pre0 i0 i1 i2 i3 i4 i5 sa sk sd v10 v11 v13 v15 hv10 hv11 hv13 hv15) (own_pre1 i0 i1 i2 i3 i4 i5 sa sk sd v10 v11 v13 v15 hv10 hv11 hv13 hv15)) (argsL := [(.ref b1), (.int v13), (.int v15)]) pd4 rfl 0 (by decide) (by decide) (by decide) (by decide) (rest := []) rfl rfl (Nat.le_of_eq rfl) at_75 rfl (fun v16 T16 h16 C16 qq16 => ?_)
  obtain ⟨rfl, hh16⟩ := qq16
  have hh16 := hh16.symm; subst hh16
  show Go p e below F n0 (fun v _ => v = some (.int (1 : Int32))) T16 (mkF m 78 #[.val (.int i0), .val (.int i1), .val (.int i2), .val (.int i3), .val (.int i4), .val (.int i5), .val (.ref b1), .val (.int v10), .val (.int v11), .val (.int v13), .val (.int v15), .unset] [(.int (loopT (fun j => ([(nar .byte (f1 i0)), (nar .byte (f1 i1)), (nar .byte (f1 i2)), (nar .byte (f1 i3))].getD j.toNatClampNeg (0 : Int32))) (v15.toInt - v13.toInt).toNat v15))])
  refine C16.istoreV (fun v => #[.val (.int i0), .val (.int i1), .val (.int i2), .val (.int i3), .val (.int i4), .val (.int i5), .val (.ref b1), .val (.int v10), .val (.int v11), .val (.int v13), .val (.int v15), .val (.int v)]) at_78 rfl (fun _ => rfl) (fun v17 hv17 => ?_)
  refine C16.iload at_80 rfl rfl ?_
  refine C16.iload at_82 rfl rfl ?_
  refine C16.icmp_lt at_84 (by decide) (by decide : _ = 94) rfl (fun c84 => ?_) (fun c84 => ?_)
  · refine C16.iconst (0 : Int32) at_94 rfl rfl ?_
    exact (own_bad0 i0 i1 i2 i3 i4 i5 sa sk sd v10 v11 v13 v15 v17 hv10 hv11 hv13 hv15 hv17 c84).elim
  · refine C16.iload at_87 rfl rfl ?_
    refine C16.iload at_89 rfl rfl ?_
    refine C16.icmp_le at_91 (by decide) (by decide : _ = 96) rfl (fun c91 => ?_) (fun c91 => ?_)
    · refine C16.iload at_96 rfl rfl ?_
      refine C16.iload at_98 rfl rfl ?_
      refine C16.icmp_le at_100 (by decide) (by decide : _ = 118) rfl (fun c100 => ?_) (fun c100 => ?_)
      · refine C16.aload at_118 rfl rfl rfl ?_
        refine C16.iconst (0 : Int32) at_120 rfl rfl ?_
        refine C16.iload at_121 rfl rfl ?_
        refine C16.iload at_123 rfl rfl ?_
        refine C16.callS (hw _ (List.mem_of_getElem? (i := 22) rfl)) (hw _ (List.mem_of_getElem? (i := 23) rfl)) (hw _ (List.mem_of_getElem? (i := 3) rfl)) (hw _ (List.mem_of_getElem? (i := 24) rfl)) (by decide) (rm6 l Z a0 hw b1 (0 : Int32) v17 v15 k1 (4 : Int32) [(.int (nar .byte (f1 i0))), (.int (nar .byte (f1 i1))), (.int (nar .byte (f1 i2))), (.int (nar .byte (f1 i3)))] (.int (0 : Int32)) (nar .byte (f1 i0)) h9 n0 C16.size V_b1 ⟨by decide, by decide⟩ rfl) (argsL := [(.ref b1), (.int (0 : Int32)), (.int v17), (.int v15)]) pd6 rfl 0 (by decide) (by decide) (by decide) (by decide) (rest := []) rfl rfl (Nat.le_of_eq rfl) at_125 rfl (fun v18 T18 h18 C18 qq18 => ?_)
        obtain ⟨rfl, hh18⟩ := qq18
        have hh18 := hh18.symm; subst hh18
        show Go p e below F n0 (fun v _ => v = some (.int (1 : Int32))) T18 (mkF m 128 #[.val (.int i0), .val (.int i1), .val (.int i2), .val (.int i3), .val (.int i4), .val (.int i5), .val (.ref b1), .val (.int v10), .val (.int v11), .val (.int v13), .val (.int v15), .val (.int v17)] [(.int (f6 (0 : Int32) v17 v15 (nar .byte (f1 i0))))])
        refine C18.if_eq at_128 (by decide) (by decide : _ = 174) rfl (fun c128 => ?_) (fun c128 => ?_)
        · refine C18.iconst (0 : Int32) at_174 rfl rfl ?_
          exact (own_bad1 i0 i1 i2 i3 i4 i5 sa sk sd v10 v11 v13 v15 v17 hv10 hv11 hv13 hv15 hv17 c84 c91 c100 c128).elim
        · refine C18.aload at_131 rfl rfl rfl ?_
          refine C18.iconst (1 : Int32) at_133 rfl rfl ?_
          refine C18.iload at_134 rfl rfl ?_
          refine C18.iload at_136 rfl rfl ?_
          refine C18.callS (hw _ (List.mem_of_getElem? (i := 22) rfl)) (hw _ (List.mem_of_getElem? (i := 23) rfl)) (hw _ (List.mem_of_getElem? (i := 3) rfl)) (hw _ (List.mem_of_getElem? (i := 24) rfl)) (by decide) (rm6 l Z a0 hw b1 (1 : Int32) v17 v15 k1 (4 : Int32) [(.int (nar .byte (f1 i0))), (.int (nar .byte (f1 i1))), (.int (nar .byte (f1 i2))), (.int (nar .byte (f1 i3)))] (.int (0 : Int32)) (nar .byte (f1 i1)) h9 n0 C18.size V_b1 ⟨by decide, by decide⟩ rfl) (argsL := [(.ref b1), (.int (1 : Int32)), (.int v17), (.int v15)]) pd6 rfl 0 (by decide) (by decide) (by decide) (by decide) (rest := []) rfl rfl (Nat.le_of_eq rfl) at_138 rfl (fun v19 T19 h19 C19 qq19 => ?_)
          obtain ⟨rfl, hh19⟩ := qq19
          have hh19 := hh19.symm; subst hh19
          show Go p e below F n0 (fun v _ => v = some (.int (1 : Int32))) T19 (mkF m 141 #[.val (.int i0), .val (.int i1), .val (.int i2), .val (.int i3), .val (.int i4), .val (.int i5), .val (.ref b1), .val (.int v10), .val (.int v11), .val (.int v13), .val (.int v15), .val (.int v17)] [(.int (f6 (1 : Int32) v17 v15 (nar .byte (f1 i1))))])
          refine C19.if_eq at_141 (by decide) (by decide : _ = 174) rfl (fun c141 => ?_) (fun c141 => ?_)
          · refine C19.iconst (0 : Int32) at_174 rfl rfl ?_
            exact (own_bad2 i0 i1 i2 i3 i4 i5 sa sk sd v10 v11 v13 v15 v17 hv10 hv11 hv13 hv15 hv17 c84 c91 c100 c128 c141).elim
          · refine C19.aload at_144 rfl rfl rfl ?_
            refine C19.iconst (2 : Int32) at_146 rfl rfl ?_
            refine C19.iload at_147 rfl rfl ?_
            refine C19.iload at_149 rfl rfl ?_
            refine C19.callS (hw _ (List.mem_of_getElem? (i := 22) rfl)) (hw _ (List.mem_of_getElem? (i := 23) rfl)) (hw _ (List.mem_of_getElem? (i := 3) rfl)) (hw _ (List.mem_of_getElem? (i := 24) rfl)) (by decide) (rm6 l Z a0 hw b1 (2 : Int32) v17 v15 k1 (4 : Int32) [(.int (nar .byte (f1 i0))), (.int (nar .byte (f1 i1))), (.int (nar .byte (f1 i2))), (.int (nar .byte (f1 i3)))] (.int (0 : Int32)) (nar .byte (f1 i2)) h9 n0 C19.size V_b1 ⟨by decide, by decide⟩ rfl) (argsL := [(.ref b1), (.int (2 : Int32)), (.int v17), (.int v15)]) pd6 rfl 0 (by decide) (by decide) (by decide) (by decide) (rest := []) rfl rfl (Nat.le_of_eq rfl) at_151 rfl (fun v20 T20 h20 C20 qq20 => ?_)
            obtain ⟨rfl, hh20⟩ := qq20
            have hh20 := hh20.symm; subst hh20
            show Go p e below F n0 (fun v _ => v = some (.int (1 : Int32))) T20 (mkF m 154 #[.val (.int i0), .val (.int i1), .val (.int i2), .val (.int i3), .val (.int i4), .val (.int i5), .val (.ref b1), .val (.int v10), .val (.int v11), .val (.int v13), .val (.int v15), .val (.int v17)] [(.int (f6 (2 : Int32) v17 v15 (nar .byte (f1 i2))))])
            refine C20.if_eq at_154 (by decide) (by decide : _ = 174) rfl (fun c154 => ?_) (fun c154 => ?_)
            · refine C20.iconst (0 : Int32) at_174 rfl rfl ?_
              exact (own_bad3 i0 i1 i2 i3 i4 i5 sa sk sd v10 v11 v13 v15 v17 hv10 hv11 hv13 hv15 hv17 c84 c91 c100 c128 c141 c154).elim
            · refine C20.aload at_157 rfl rfl rfl ?_
              refine C20.iconst (3 : Int32) at_159 rfl rfl ?_
              refine C20.iload at_160 rfl rfl ?_
              refine C20.iload at_162 rfl rfl ?_
              refine C20.callS (hw _ (List.mem_of_getElem? (i := 22) rfl)) (hw _ (List.mem_of_getElem? (i := 23) rfl)) (hw _ (List.mem_of_getElem? (i := 3) rfl)) (hw _ (List.mem_of_getElem? (i := 24) rfl)) (by decide) (rm6 l Z a0 hw b1 (3 : Int32) v17 v15 k1 (4 : Int32) [(.int (nar .byte (f1 i0))), (.int (nar .byte (f1 i1))), (.int (nar .byte (f1 i2))), (.int (nar .byte (f1 i3)))] (.int (0 : Int32)) (nar .byte (f1 i3)) h9 n0 C20.size V_b1 ⟨by decide, by decide⟩ rfl) (argsL := [(.ref b1), (.int (3 : Int32)), (.int v17), (.int v15)]) pd6 rfl 0 (by decide) (by decide) (by decide) (by decide) (rest := []) rfl rfl (Nat.le_of_eq rfl) at_164 rfl (fun v21 T21 h21 C21 qq21 => ?_)
              obtain ⟨rfl, hh21⟩ := qq21
              have hh21 := hh21.symm; subst hh21
              show Go p e below F n0 (fun v _ => v = some (.int (1 : Int32))) T21 (mkF m 167 #[.val (.int i0), .val (.int i1), .val (.int i2), .val (.int i3), .val (.int i4), .val (.int i5), .val (.ref b1), .val (.int v10), .val (.int v11), .val (.int v13), .val (.int v15), .val (.int v17)] [(.int (f6 (3 : Int32) v17 v15 (nar .byte (f1 i3))))])
              refine C21.if_eq at_167 (by decide) (by decide : _ = 174) rfl (fun c167 => ?_) (fun c167 => ?_)
              · refine C21.iconst (0 : Int32) at_174 rfl rfl ?_
                exact (own_bad4 i0 i1 i2 i3 i4 i5 sa sk sd v10 v11 v13 v15 v17 hv10 hv11 hv13 hv15 hv17 c84 c91 c100 c128 c141 c154 c167).elim
              · refine C21.iconst (1 : Int32) at_170 rfl rfl ?_
                refine C21.goto at_171 (by decide) (by decide : _ = 175) ?_
                exact C21.retN (t := .boolean) at_175 rfl (by simp) (by decide) (by decide) (w := (1 : Int32)) rfl rfl
      · refine C16.aload at_103 rfl rfl rfl ?_
        refine C16.iload at_105 rfl rfl ?_
        refine C16.iconst (1 : Int32) at_107 rfl rfl ?_
        refine C16.isub at_108 rfl ?_
        refine C16.baload (v := ([(nar .byte (f1 i0)), (nar .byte (f1 i1)), (nar .byte (f1 i2)), (nar .byte (f1 i3))].getD ((v17 - (1 : Int32))).toNatClampNeg (0 : Int32))) V_b1 (own_pre2 i0 i1 i2 i3 i4 i5 sa sk sd v10 v11 v13 v15 v17 hv10 hv11 hv13 hv15 hv17 c84 c91 c100) (own_getI [(nar .byte (f1 i0)), (nar .byte (f1 i1)), (nar .byte (f1 i2)), (nar .byte (f1 i3))] _) at_109 rfl ?_
        refine C16.callS (hw _ (List.mem_of_getElem? (i := 19) rfl)) (hw _ (List.mem_of_getElem? (i := 20) rfl)) (hw _ (List.mem_of_getElem? (i := 3) rfl)) (hw _ (List.mem_of_getElem? (i := 21) rfl)) (by decide) (rm5 l Z a0 hw ([(nar .byte (f1 i0)), (nar .byte (f1 i1)), (nar .byte (f1 i2)), (nar .byte (f1 i3))].getD ((v17 - (1 : Int32))).toNatClampNeg (0 : Int32)) h9 n0 C16.size ) (argsL := [(.int ([(nar .byte (f1 i0)), (nar .byte (f1 i1)), (nar .byte (f1 i2)), (nar .byte (f1 i3))].getD ((v17 - (1 : Int32))).toNatClampNeg (0 : Int32)))]) pd5 rfl 0 (by decide) (by decide) (by decide) (by decide) (rest := []) rfl rfl (Nat.le_of_eq rfl) at_110 rfl (fun v22 T22 h22 C22 qq22 => ?_)
        obtain ⟨rfl, hh22⟩ := qq22
        have hh22 := hh22.symm; subst hh22
        show Go p e below F n0 (fun v _ => v = some (.int (1 : Int32))) T22 (mkF m 113 #[.val (.int i0), .val (.int i1), .val (.int i2), .val (.int i3), .val (.int i4), .val (.int i5), .val (.ref b1), .val (.int v10), .val (.int v11), .val (.int v13), .val (.int v15), .val (.int v17)] [(.int (f5 ([(nar .byte (f1 i0)), (nar .byte (f1 i1)), (nar .byte (f1 i2)), (nar .byte (f1 i3))].getD ((v17 - (1 : Int32))).toNatClampNeg (0 : Int32))))])
        refine C22.if_eq at_113 (by decide) (by decide : _ = 118) rfl (fun c113 => ?_) (fun c113 => ?_)
        · refine C22.aload at_118 rfl rfl rfl ?_
          refine C22.iconst (0 : Int32) at_120 rfl rfl ?_
          refine C22.iload at_121 rfl rfl ?_
          refine C22.iload at_123 rfl rfl ?_
          refine C22.callS (hw _ (List.mem_of_getElem? (i := 22) rfl)) (hw _ (List.mem_of_getElem? (i := 23) rfl)) (hw _ (List.mem_of_getElem? (i := 3) rfl)) (hw _ (List.mem_of_getElem? (i := 24) rfl)) (by decide) (rm6 l Z a0 hw b1 (0 : Int32) v17 v15 k1 (4 : Int32) [(.int (nar .byte (f1 i0))), (.int (nar .byte (f1 i1))), (.int (nar .byte (f1 i2))), (.int (nar .byte (f1 i3)))] (.int (0 : Int32)) (nar .byte (f1 i0)) h9 n0 C22.size V_b1 ⟨by decide, by decide⟩ rfl) (argsL := [(.ref b1), (.int (0 : Int32)), (.int v17), (.int v15)]) pd6 rfl 0 (by decide) (by decide) (by decide) (by decide) (rest := []) rfl rfl (Nat.le_of_eq rfl) at_125 rfl (fun v23 T23 h23 C23 qq23 => ?_)
          obtain ⟨rfl, hh23⟩ := qq23
          have hh23 := hh23.symm; subst hh23
          show Go p e below F n0 (fun v _ => v = some (.int (1 : Int32))) T23 (mkF m 128 #[.val (.int i0), .val (.int i1), .val (.int i2), .val (.int i3), .val (.int i4), .val (.int i5), .val (.ref b1), .val (.int v10), .val (.int v11), .val (.int v13), .val (.int v15), .val (.int v17)] [(.int (f6 (0 : Int32) v17 v15 (nar .byte (f1 i0))))])
          refine C23.if_eq at_128 (by decide) (by decide : _ = 174) rfl (fun c128 => ?_) (fun c128 => ?_)
          · refine C23.iconst (0 : Int32) at_174 rfl rfl ?_
            exact (own_bad5 i0 i1 i2 i3 i4 i5 sa sk sd v10 v11 v13 v15 v17 hv10 hv11 hv13 hv15 hv17 c84 c91 c100 c113 c128).elim
          · refine C23.aload at_131 rfl rfl rfl ?_
            refine C23.iconst (1 : Int32) at_133 rfl rfl ?_
            refine C23.iload at_134 rfl rfl ?_
            refine C23.iload at_136 rfl rfl ?_
            refine C23.callS (hw _ (List.mem_of_getElem? (i := 22) rfl)) (hw _ (List.mem_of_getElem? (i := 23) rfl)) (hw _ (List.mem_of_getElem? (i := 3) rfl)) (hw _ (List.mem_of_getElem? (i := 24) rfl)) (by decide) (rm6 l Z a0 hw b1 (1 : Int32) v17 v15 k1 (4 : Int32) [(.int (nar .byte (f1 i0))), (.int (nar .byte (f1 i1))), (.int (nar .byte (f1 i2))), (.int (nar .byte (f1 i3)))] (.int (0 : Int32)) (nar .byte (f1 i1)) h9 n0 C23.size V_b1 ⟨by decide, by decide⟩ rfl) (argsL := [(.ref b1), (.int (1 : Int32)), (.int v17), (.int v15)]) pd6 rfl 0 (by decide) (by decide) (by decide) (by decide) (rest := []) rfl rfl (Nat.le_of_eq rfl) at_138 rfl (fun v24 T24 h24 C24 qq24 => ?_)
            obtain ⟨rfl, hh24⟩ := qq24
            have hh24 := hh24.symm; subst hh24
            show Go p e below F n0 (fun v _ => v = some (.int (1 : Int32))) T24 (mkF m 141 #[.val (.int i0), .val (.int i1), .val (.int i2), .val (.int i3), .val (.int i4), .val (.int i5), .val (.ref b1), .val (.int v10), .val (.int v11), .val (.int v13), .val (.int v15), .val (.int v17)] [(.int (f6 (1 : Int32) v17 v15 (nar .byte (f1 i1))))])
            refine C24.if_eq at_141 (by decide) (by decide : _ = 174) rfl (fun c141 => ?_) (fun c141 => ?_)
            · refine C24.iconst (0 : Int32) at_174 rfl rfl ?_
              exact (own_bad6 i0 i1 i2 i3 i4 i5 sa sk sd v10 v11 v13 v15 v17 hv10 hv11 hv13 hv15 hv17 c84 c91 c100 c113 c128 c141).elim
            · refine C24.aload at_144 rfl rfl rfl ?_
              refine C24.iconst (2 : Int32) at_146 rfl rfl ?_
              refine C24.iload at_147 rfl rfl ?_
              refine C24.iload at_149 rfl rfl ?_
              refine C24.callS (hw _ (List.mem_of_getElem? (i := 22) rfl)) (hw _ (List.mem_of_getElem? (i := 23) rfl)) (hw _ (List.mem_of_getElem? (i := 3) rfl)) (hw _ (List.mem_of_getElem? (i := 24) rfl)) (by decide) (rm6 l Z a0 hw b1 (2 : Int32) v17 v15 k1 (4 : Int32) [(.int (nar .byte (f1 i0))), (.int (nar .byte (f1 i1))), (.int (nar .byte (f1 i2))), (.int (nar .byte (f1 i3)))] (.int (0 : Int32)) (nar .byte (f1 i2)) h9 n0 C24.size V_b1 ⟨by decide, by decide⟩ rfl) (argsL := [(.ref b1), (.int (2 : Int32)), (.int v17), (.int v15)]) pd6 rfl 0 (by decide) (by decide) (by decide) (by decide) (rest := []) rfl rfl (Nat.le_of_eq rfl) at_151 rfl (fun v25 T25 h25 C25 qq25 => ?_)
              obtain ⟨rfl, hh25⟩ := qq25
              have hh25 := hh25.symm; subst hh25
              show Go p e below F n0 (fun v _ => v = some (.int (1 : Int32))) T25 (mkF m 154 #[.val (.int i0), .val (.int i1), .val (.int i2), .val (.int i3), .val (.int i4), .val (.int i5), .val (.ref b1), .val (.int v10), .val (.int v11), .val (.int v13), .val (.int v15), .val (.int v17)] [(.int (f6 (2 : Int32) v17 v15 (nar .byte (f1 i2))))])
              refine C25.if_eq at_154 (by decide) (by decide : _ = 174) rfl (fun c154 => ?_) (fun c154 => ?_)
              · refine C25.iconst (0 : Int32) at_174 rfl rfl ?_
                exact (own_bad7 i0 i1 i2 i3 i4 i5 sa sk sd v10 v11 v13 v15 v17 hv10 hv11 hv13 hv15 hv17 c84 c91 c100 c113 c128 c141 c154).elim
              · refine C25.aload at_157 rfl rfl rfl ?_
                refine C25.iconst (3 : Int32) at_159 rfl rfl ?_
                refine C25.iload at_160 rfl rfl ?_
                refine C25.iload at_162 rfl rfl ?_
                refine C25.callS (hw _ (List.mem_of_getElem? (i := 22) rfl)) (hw _ (List.mem_of_getElem? (i := 23) rfl)) (hw _ (List.mem_of_getElem? (i := 3) rfl)) (hw _ (List.mem_of_getElem? (i := 24) rfl)) (by decide) (rm6 l Z a0 hw b1 (3 : Int32) v17 v15 k1 (4 : Int32) [(.int (nar .byte (f1 i0))), (.int (nar .byte (f1 i1))), (.int (nar .byte (f1 i2))), (.int (nar .byte (f1 i3)))] (.int (0 : Int32)) (nar .byte (f1 i3)) h9 n0 C25.size V_b1 ⟨by decide, by decide⟩ rfl) (argsL := [(.ref b1), (.int (3 : Int32)), (.int v17), (.int v15)]) pd6 rfl 0 (by decide) (by decide) (by decide) (by decide) (rest := []) rfl rfl (Nat.le_of_eq rfl) at_164 rfl (fun v26 T26 h26 C26 qq26 => ?_)
                obtain ⟨rfl, hh26⟩ := qq26
                have hh26 := hh26.symm; subst hh26
                show Go p e below F n0 (fun v _ => v = some (.int (1 : Int32))) T26 (mkF m 167 #[.val (.int i0), .val (.int i1), .val (.int i2), .val (.int i3), .val (.int i4), .val (.int i5), .val (.ref b1), .val (.int v10), .val (.int v11), .val (.int v13), .val (.int v15), .val (.int v17)] [(.int (f6 (3 : Int32) v17 v15 (nar .byte (f1 i3))))])
                refine C26.if_eq at_167 (by decide) (by decide : _ = 174) rfl (fun c167 => ?_) (fun c167 => ?_)
                · refine C26.iconst (0 : Int32) at_174 rfl rfl ?_
                  exact (own_bad8 i0 i1 i2 i3 i4 i5 sa sk sd v10 v11 v13 v15 v17 hv10 hv11 hv13 hv15 hv17 c84 c91 c100 c113 c128 c141 c154 c167).elim
                · refine C26.iconst (1 : Int32) at_170 rfl rfl ?_
                  refine C26.goto at_171 (by decide) (by decide : _ = 175) ?_
                  exact C26.retN (t := .boolean) at_175 rfl (by simp) (by decide) (by decide) (w := (1 : Int32)) rfl rfl
        · refine C22.iconst (0 : Int32) at_116 rfl rfl ?_
          exact (own_bad9 i0 i1 i2 i3 i4 i5 sa sk sd v10 v11 v13 v15 v17 hv10 hv11 hv13 hv15 hv17 c84 c91 c100 c113).elim
    · refine C16.iconst (0 : Int32) at_94 rfl rfl ?_
      exact (own_bad10 i0 i1 i2 i3 i4 i5 sa sk sd v10 v11 v13 v15 v17 hv10 hv11 hv13 hv15 hv17 c84 c91).elim
set_option maxRecDepth 65536 in
set_option maxHeartbeats 40000000 in
theorem comes_1 {Post : Tables → Env → Array Value → State → Outcome → State → Prop} (hpost : ∀ tb e args s v u, (limb_1_1.after args s (.returned v) u = true ∧ limb_1_2.after args s (.returned v) u = true ∧ True) → FrameEnd s (.returned v) u (Jvm.fieldLocs frame_1_writes args s ++ Jvm.arrayLocs frame_1_arrays args s ++ Jvm.staticLocs frame_1_statics s) 16 128 → Post tb e args s (.returned v) u) :
    ArmFor flags0 classFile x code maxLocals ret World_1 tables_1 room_1 Calls_1 rest_1 Pre_1 Post := by
  intro l hfl _ _ p e ha hc hk s m args below hf hA hF happ hP
  obtain ⟨hcalls, hrest, hpre⟩ := hP
  obtain ⟨-, -, -, hnamed, -, -, -, hat⟩ := (Spec.applies_iff hf).mp happ
  obtain ⟨hg, hn⟩ := and_e (Cond.before_iff.mp (show (Jvm.Cond.and given_1 narrow_1).before args s = true from hpre))
  obtain ⟨g1, g2⟩ := and_e hg
  obtain ⟨g3, g4⟩ := and_e g2
  obtain ⟨g5, g6⟩ := and_e g4
  obtain ⟨g7, g8⟩ := and_e g6
  obtain ⟨g9, g10⟩ := and_e g8
  obtain ⟨g11, g12⟩ := and_e g10
  obtain ⟨w0, w1, w2, w3, w4, w5, rfl⟩ : ∃ w0 w1 w2 w3 w4 w5 : Value, args = #[w0, w1, w2, w3, w4, w5] := by
    have hs : args.size = 6 := by simpa [Cond.value, given_1] using g1
    obtain ⟨L⟩ := args
    match L, hs with
    | [w0, w1, w2, w3, w4, w5], _ => exact ⟨w0, w1, w2, w3, w4, w5, rfl⟩
  have hw := fun d (hd : d ∈ tables_1) => atoms_spec (ws := Jvm.Cond.code x code maxLocals ret :: tables_1) hat d (List.mem_cons_of_mem _ hd)
  have hfit : Fit s := fun {y c} hc i hi => by
    obtain ⟨ha, rfl⟩ := Array.getElem?_eq_some_iff.mp hc
    have q := List.all_eq_true.mp ((Array.all_eq_true_iff_forall_mem.mp hF) _ (Array.getElem_mem ha)) i (List.mem_range.mpr hi)
    simpa [Array.getElem?_eq_getElem hi] using q
  obtain ⟨i0, ei0⟩ := is_v g3
  obtain rfl : w0 = (.int i0) := Option.some.inj ei0
  obtain ⟨i1, ei1⟩ := is_v g5
  obtain rfl : w1 = (.int i1) := Option.some.inj ei1
  obtain ⟨i2, ei2⟩ := is_v g7
  obtain rfl : w2 = (.int i2) := Option.some.inj ei2
  obtain ⟨i3, ei3⟩ := is_v g9
  obtain rfl : w3 = (.int i3) := Option.some.inj ei3
  obtain ⟨i4, ei4⟩ := is_v g11
  obtain rfl : w4 = (.int i4) := Option.some.inj ei4
  obtain ⟨i5, ei5⟩ := is_v g12
  obtain rfl : w5 = (.int i5) := Option.some.inj ei5
  obtain ⟨q1, q2⟩ := and_e hn
  obtain ⟨q3, q4⟩ := and_e q2
  obtain ⟨q5, q6⟩ := and_e q4
  obtain ⟨q7, q8⟩ := and_e q6
  obtain ⟨q9, q10⟩ := and_e q8
  obtain ⟨q11, q12⟩ := and_e q10
  obtain ⟨sa, sk, sd, S1, V1⟩ := own_space (hw _ (List.mem_of_getElem? (i := 15) rfl)) (hw _ (List.mem_of_getElem? (i := 18) rfl)) q1 q3 q5 q7 q9 q11 q12
  obtain ⟨n, o, h1, h2, h3, _, L, rfl, ⟨⟨rfl, -⟩, N⟩, hq⟩ := rm0 l s _ hw i0 i1 i2 i3 i4 i5 sa sk sd s.heap s.heap.size (Nat.le_refl _) S1 V1 tables_1 p e ha hc hk s m _ below hf ((Spec.applies_iff_loose hf).mp happ).1 ⟨rfl, State.Warmed39.refl s, rfl⟩ trivial
  refine ⟨n, _, h1, h2, h3, hpost _ _ _ _ _ _ ⟨Cond.after_iff.mpr rfl, Cond.after_iff.mpr (eq_i res_at (Term.int_eval (1)) rfl), trivial⟩ ⟨hq.1, hq.2.1, (hq.2.2.sift fun y hy => Or.inr (N y hy)).mono (by decide) (by decide)⟩⟩
theorem main_1_1 : Claimed_1_1 := comes_1 fun _ _ _ _ _ _ h hF => ⟨h.1, hF⟩
theorem main_1_2 : Claimed_1_2 := comes_1 fun _ _ _ _ _ _ h hF => ⟨h.2.1, hF⟩
end Jvm.Pilot.@@N@@
namespace Jvm.Pilot.@@N@@
open Jvm Jvm.ClassFile Sem Op Lib Jvm.Free Jvm.Stand Jvm.Pilot.@@N@@.Jvm.D
/-! MADE BY PROGRAM (witnessworld.py) out of the Statement's table words and the real class files: 12 classes; the members and pool entries that the words name. The judged class is class 1, her method 4. -/
namespace start1
open Jvm.ClassFile
def u (s : String) : CpInfo := .utf8 (stringToUtf16 s)
/-- a pool by its gaps: so many unusable entries, then the entry; so many at the end -/
def gap : Nat → List CpInfo → List CpInfo
  | 0, r => r
  | n + 1, r => .unusable :: gap n r
def poolList (es : List (Nat × CpInfo)) (last : Nat) : List CpInfo := es.foldr (fun e r => gap e.1 (e.2 :: r)) (gap last [])
def pool (es : List (Nat × CpInfo)) (last : Nat) : Array CpInfo := ⟨poolList es last⟩
def fileOf (pool : Array CpInfo) (this : Nat) (attrs : Array Attribute := #[]) (ms : Array MethodInfo := #[]) (fl : Nat := 33) (sup : Nat := 0) (ifs : Array Nat := #[]) (fds : Array FieldInfo := #[]) : ClassFile where
  minorVersion := 0
  majorVersion := 65
  constantPool := pool
  accessFlags := fl
  thisClass := this
  superClass := sup
  interfaces := ifs
  fields := fds
  methods := ms
  attributes := attrs
def plain (name : String) (sup : Option ClassId) : Class where
  name := name
  kind := .ordinary
  loader := none
  accessFlags := 33
  super := sup
  interfaces := #[]
  cf := none
  fields := #[]
  methods := #[]
  instanceTypes := #[]
  staticTypes := #[]
  resolved := #[]
  callSites := []
  init := .initialized
  statics := none
  mirror := none

def pool0 : Array CpInfo := pool [(5, u "<init>"), (0, u "()V"), (1, .class_ 10), (1, u "java/lang/Object")] 113

def k0m0 : Method := { name := "<init>", desc := "()V", sig := { parameters := [], returnType := none }, accessFlags := 1, code := none }
/-- java/lang/Object -/
def k0 : Class := { plain "java/lang/Object" none with
  accessFlags := 33
  interfaces := #[]
  cf := some (fileOf pool0 8 #[] #[{ accessFlags := 1, nameIndex := 5, descriptorIndex := 6, attributes := #[] }] 33 0 #[] #[])
  fields := #[]
  methods := #[k0m0]
  instanceTypes := #[]
  staticTypes := #[]
  resolved := Array.replicate 124 none
  statics := none }

def pool1 : Array CpInfo := pool [(2, .class_ 4), (1, u "java/lang/Object"), (0, u "<init>"), (0, u "()V"), (0, .methodref 8 9), (0, .class_ 10), (0, .nameAndType 11 12), (0, u "com/example/leeway/leeway/service/HeaderFieldsTrimmedEndPinLaw"), (0, u "sp"), (0, u "(B)Z"), (0, .methodref 8 14), (0, .nameAndType 15 16), (0, u "draw"), (0, u "(I)B"), (0, .integer 2147483647), (0, .methodref 19 20), (0, .class_ 21), (0, .nameAndType 22 23), (0, u "java/lang/Math"), (0, u "min"), (0, u "(II)I"), (0, .methodref 19 25), (0, .nameAndType 26 23), (0, u "max"), (0, .methodref 28 29), (0, .class_ 30), (0, .nameAndType 31 32), (0, u "com/example/leeway/leeway/service/HeaderFields"), (0, u "trimmedEnd"), (0, u "([BII)I"), (0, .methodref 8 34), (0, .nameAndType 35 36), (0, u "tailOk"), (0, u "([BIII)Z"), (3, u "law"), (0, u "(IIIIII)Z")] 4

def k1m0 : Method := { name := "<init>", desc := "()V", sig := { parameters := [], returnType := none }, accessFlags := 1, code := none }
def k1c1 : Code := { maxStack := 2, maxLocals := 2, code := method_2_code, exceptionTable := #[], attributes := #[] }
def k1m1 : Method := { name := "draw", desc := "(I)B", sig := { parameters := [.int], returnType := some .byte }, accessFlags := 10, code := some k1c1 }
def k1c2 : Code := { maxStack := 2, maxLocals := 2, code := method_3_code, exceptionTable := #[], attributes := #[] }
def k1m2 : Method := { name := "sp", desc := "(B)Z", sig := { parameters := [.byte], returnType := some .boolean }, accessFlags := 10, code := some k1c2 }
def k1c3 : Code := { maxStack := 2, maxLocals := 4, code := method_4_code, exceptionTable := #[], attributes := #[] }
def k1m3 : Method := { name := "tailOk", desc := "([BIII)Z", sig := { parameters := [(.array .byte), .int, .int, .int], returnType := some .boolean }, accessFlags := 10, code := some k1c3 }
def k1c4 : Code := { maxStack := 4, maxLocals := 12, code := code, exceptionTable := #[], attributes := #[] }
def k1m4 : Method := { name := "law", desc := "(IIIIII)Z", sig := { parameters := [.int, .int, .int, .int, .int, .int], returnType := some .boolean }, accessFlags := 9, code := some k1c4 }
/-- com/example/leeway/leeway/service/HeaderFieldsTrimmedEndPinLaw -/
def k1 : Class := { plain "com/example/leeway/leeway/service/HeaderFieldsTrimmedEndPinLaw" (some 0) with
  accessFlags := 49
  interfaces := #[]
  cf := some (fileOf pool1 8 #[] #[{ accessFlags := 1, nameIndex := 5, descriptorIndex := 6, attributes := #[] }, { accessFlags := 10, nameIndex := 15, descriptorIndex := 16, attributes := #[] }, { accessFlags := 10, nameIndex := 11, descriptorIndex := 12, attributes := #[] }, { accessFlags := 10, nameIndex := 35, descriptorIndex := 36, attributes := #[] }, { accessFlags := 9, nameIndex := 40, descriptorIndex := 41, attributes := #[] }] 49 2 #[] #[])
  fields := #[]
  methods := #[k1m0, k1m1, k1m2, k1m3, k1m4]
  instanceTypes := #[]
  staticTypes := #[]
  resolved := Array.replicate 46 none
  statics := none }

def pool2 : Array CpInfo := pool [(1, .class_ 2), (0, u "java/lang/Math"), (1, .class_ 6), (1, u "java/lang/Object"), (0, u "<init>"), (0, u "()V"), (89, .class_ 100), (1, u "java/lang/Math$RandomNumberGeneratorHolder"), (71, u "negativeZeroFloatBits"), (0, u "J"), (2, u "negativeZeroDoubleBits"), (21, u "max"), (2, u "min"), (43, u "$assertionsDisabled"), (0, u "Z"), (88, u "(II)I"), (2, u "twoToTheDoubleScaleDown"), (0, u "D"), (4, u "twoToTheDoubleScaleUp"), (9, u "E"), (3, u "PI"), (2, u "TAU"), (2, u "DEGREES_TO_RADIANS"), (0, u "RADIANS_TO_DEGREES")] 94

def k2m0 : Method := { name := "<init>", desc := "()V", sig := { parameters := [], returnType := none }, accessFlags := 2, code := none }
def k2c1 : Code := { maxStack := 2, maxLocals := 2, code := jdk_29_method_65_code, exceptionTable := #[], attributes := #[] }
def k2m1 : Method := { name := "max", desc := "(II)I", sig := { parameters := [.int, .int], returnType := some .int }, accessFlags := 9, code := some k2c1 }
def k2c2 : Code := { maxStack := 2, maxLocals := 2, code := jdk_29_method_69_code, exceptionTable := #[], attributes := #[] }
def k2m2 : Method := { name := "min", desc := "(II)I", sig := { parameters := [.int, .int], returnType := some .int }, accessFlags := 9, code := some k2c2 }
/-- java/lang/Math -/
def k2 : Class := { plain "java/lang/Math" (some 0) with
  accessFlags := 49
  interfaces := #[]
  cf := some (fileOf pool2 1 #[.nestMembers #[98]] #[{ accessFlags := 2, nameIndex := 7, descriptorIndex := 8, attributes := #[] }, { accessFlags := 9, nameIndex := 198, descriptorIndex := 335, attributes := #[] }, { accessFlags := 9, nameIndex := 201, descriptorIndex := 335, attributes := #[] }] 49 4 #[] #[{ accessFlags := 25, nameIndex := 354, descriptorIndex := 339, attributes := #[] }, { accessFlags := 25, nameIndex := 358, descriptorIndex := 339, attributes := #[] }, { accessFlags := 25, nameIndex := 361, descriptorIndex := 339, attributes := #[] }, { accessFlags := 26, nameIndex := 364, descriptorIndex := 339, attributes := #[] }, { accessFlags := 26, nameIndex := 365, descriptorIndex := 339, attributes := #[] }, { accessFlags := 26, nameIndex := 172, descriptorIndex := 173, attributes := #[] }, { accessFlags := 26, nameIndex := 176, descriptorIndex := 173, attributes := #[] }, { accessFlags := 8, nameIndex := 344, descriptorIndex := 339, attributes := #[] }, { accessFlags := 8, nameIndex := 338, descriptorIndex := 339, attributes := #[] }, { accessFlags := 4120, nameIndex := 245, descriptorIndex := 246, attributes := #[] }])
  fields := #[{ name := "E", type := .double, accessFlags := 25, slot := 0, constantValue := 0 }, { name := "PI", type := .double, accessFlags := 25, slot := 1, constantValue := 0 }, { name := "TAU", type := .double, accessFlags := 25, slot := 2, constantValue := 0 }, { name := "DEGREES_TO_RADIANS", type := .double, accessFlags := 26, slot := 3, constantValue := 0 }, { name := "RADIANS_TO_DEGREES", type := .double, accessFlags := 26, slot := 4, constantValue := 0 }, { name := "negativeZeroFloatBits", type := .long, accessFlags := 26, slot := 5, constantValue := 0 }, { name := "negativeZeroDoubleBits", type := .long, accessFlags := 26, slot := 6, constantValue := 0 }, { name := "twoToTheDoubleScaleUp", type := .double, accessFlags := 8, slot := 7, constantValue := 0 }, { name := "twoToTheDoubleScaleDown", type := .double, accessFlags := 8, slot := 8, constantValue := 0 }, { name := "$assertionsDisabled", type := .boolean, accessFlags := 4120, slot := 9, constantValue := 0 }]
  methods := #[k2m0, k2m1, k2m2]
  instanceTypes := #[]
  staticTypes := #[.double, .double, .double, .double, .double, .long, .long, .double, .double, .boolean]
  resolved := Array.replicate 460 none
  statics := none }

def pool3 : Array CpInfo := pool [(2, .class_ 4), (1, u "java/lang/Object"), (3, .class_ 10), (1, u "com/example/leeway/leeway/service/HeaderFields"), (0, u "head"), (0, u "[B"), (2, u "bounds"), (0, u "[I"), (51, .fieldref 8 69), (0, .nameAndType 70 71), (0, u "SPACE"), (0, u "[Z"), (12, u "BOUNDS"), (0, u "I"), (16, u "([BII)I"), (0, u "trimmedEnd")] 4

def k3c0 : Code := { maxStack := 4, maxLocals := 4, code := prog_122_method_8_code, exceptionTable := #[], attributes := #[] }
def k3m0 : Method := { name := "trimmedEnd", desc := "([BII)I", sig := { parameters := [(.array .byte), .int, .int], returnType := some .int }, accessFlags := 8, code := some k3c0 }
/-- com/example/leeway/leeway/service/HeaderFields -/
def k3 : Class := { plain "com/example/leeway/leeway/service/HeaderFields" (some 0) with
  accessFlags := 48
  interfaces := #[]
  cf := some (fileOf pool3 8 #[] #[{ accessFlags := 8, nameIndex := 103, descriptorIndex := 102, attributes := #[] }] 48 2 #[] #[{ accessFlags := 24, nameIndex := 84, descriptorIndex := 85, attributes := #[] }, { accessFlags := 26, nameIndex := 70, descriptorIndex := 71, attributes := #[] }, { accessFlags := 18, nameIndex := 11, descriptorIndex := 12, attributes := #[] }, { accessFlags := 18, nameIndex := 15, descriptorIndex := 16, attributes := #[] }])
  fields := #[{ name := "BOUNDS", type := .int, accessFlags := 24, slot := 0, constantValue := 0 }, { name := "SPACE", type := (.array .boolean), accessFlags := 26, slot := 1, constantValue := 0 }, { name := "head", type := (.array .byte), accessFlags := 18, slot := 0, constantValue := 0 }, { name := "bounds", type := (.array .int), accessFlags := 18, slot := 1, constantValue := 0 }]
  methods := #[k3m0]
  instanceTypes := #[(.array .byte), (.array .int)]
  staticTypes := #[.int, (.array .boolean)]
  resolved := Array.replicate 108 none
  statics := some 0 }

def pool4 : Array CpInfo := pool [(1, u "java/lang/Cloneable"), (0, .class_ 1), (0, u "java/lang/Object"), (0, .class_ 3)] 3

/-- java/lang/Cloneable -/
def k4 : Class := { plain "java/lang/Cloneable" (some 0) with
  accessFlags := 1537
  interfaces := #[]
  cf := some (fileOf pool4 2 #[] #[] 1537 4 #[] #[])
  fields := #[]
  methods := #[]
  instanceTypes := #[]
  staticTypes := #[]
  resolved := Array.replicate 8 none
  statics := none }

def pool5 : Array CpInfo := pool [(1, u "java/io/Serializable"), (0, .class_ 1), (0, u "java/lang/Object"), (0, .class_ 3)] 3

/-- java/io/Serializable -/
def k5 : Class := { plain "java/io/Serializable" (some 0) with
  accessFlags := 1537
  interfaces := #[]
  cf := some (fileOf pool5 2 #[] #[] 1537 4 #[] #[])
  fields := #[]
  methods := #[]
  instanceTypes := #[]
  staticTypes := #[]
  resolved := Array.replicate 8 none
  statics := none }

/-- the primitive boolean -/
def k6 : Class := { plain "boolean" none with kind := .primitive 'Z', accessFlags := 0x411 }
/-- [Z -/
def k7 : Class := { plain "[Z" (some 0) with kind := .array 6 .boolean, interfaces := #[4, 5], accessFlags := 1041 }

/-- the primitive byte -/
def k8 : Class := { plain "byte" none with kind := .primitive 'B', accessFlags := 0x411 }
/-- [B -/
def k9 : Class := { plain "[B" (some 0) with kind := .array 8 .byte, interfaces := #[4, 5], accessFlags := 1041 }

/-- the primitive int -/
def k10 : Class := { plain "int" none with kind := .primitive 'I', accessFlags := 0x411 }
/-- [I -/
def k11 : Class := { plain "[I" (some 0) with kind := .array 10 .int, interfaces := #[4, 5], accessFlags := 1041 }

def heap : Heap := #[{ cls := 3, slots := #[.int 0, .ref 1], vm := .statics 3 },
  { cls := 7, slots := #[.int 0, .int 0, .int 0, .int 0, .int 0, .int 0, .int 0, .int 0, .int 0, .int 1, .int 0, .int 0, .int 0, .int 0, .int 0, .int 0, .int 0, .int 0, .int 0, .int 0, .int 0, .int 0, .int 0, .int 0, .int 0, .int 0, .int 0, .int 0, .int 0, .int 0, .int 0, .int 0, .int 1, .int 0, .int 0, .int 0, .int 0, .int 0, .int 0, .int 0, .int 0, .int 0, .int 0, .int 0, .int 0, .int 0, .int 0, .int 0, .int 0, .int 0, .int 0, .int 0, .int 0, .int 0, .int 0, .int 0, .int 0, .int 0, .int 0, .int 0, .int 0, .int 0, .int 0, .int 0, .int 0, .int 0, .int 0, .int 0, .int 0, .int 0, .int 0, .int 0, .int 0, .int 0, .int 0, .int 0, .int 0, .int 0, .int 0, .int 0, .int 0, .int 0, .int 0, .int 0, .int 0, .int 0, .int 0, .int 0, .int 0, .int 0, .int 0, .int 0, .int 0, .int 0, .int 0, .int 0, .int 0, .int 0, .int 0, .int 0, .int 0, .int 0, .int 0, .int 0, .int 0, .int 0, .int 0, .int 0, .int 0, .int 0, .int 0, .int 0, .int 0, .int 0, .int 0, .int 0, .int 0, .int 0, .int 0, .int 0, .int 0, .int 0, .int 0, .int 0, .int 0, .int 0, .int 0, .int 0, .int 0, .int 0, .int 0, .int 0, .int 0, .int 0, .int 0, .int 0, .int 0, .int 0, .int 0, .int 0, .int 0, .int 0, .int 0, .int 0, .int 0, .int 0, .int 0, .int 0, .int 0, .int 0, .int 0, .int 0, .int 0, .int 0, .int 0, .int 0, .int 0, .int 0, .int 0, .int 0, .int 0, .int 0, .int 0, .int 0, .int 0, .int 0, .int 0, .int 0, .int 0, .int 0, .int 0, .int 0, .int 0, .int 0, .int 0, .int 0, .int 0, .int 0, .int 0, .int 0, .int 0, .int 0, .int 0, .int 0, .int 0, .int 0, .int 0, .int 0, .int 0, .int 0, .int 0, .int 0, .int 0, .int 0, .int 0, .int 0, .int 0, .int 0, .int 0, .int 0, .int 0, .int 0, .int 0, .int 0, .int 0, .int 0, .int 0, .int 0, .int 0, .int 0, .int 0, .int 0, .int 0, .int 0, .int 0, .int 0, .int 0, .int 0, .int 0, .int 0, .int 0, .int 0, .int 0, .int 0, .int 0, .int 0, .int 0, .int 0, .int 0, .int 0, .int 0, .int 0, .int 0, .int 0, .int 0, .int 0, .int 0, .int 0, .int 0, .int 0, .int 0, .int 0, .int 0, .int 0, .int 0, .int 0, .int 0, .int 0, .int 0, .int 0, .int 0, .int 0, .int 0, .int 0, .int 0, .int 0], vm := .none }]
def classes : Array Class := #[k0, k1, k2, k3, k4, k5, k6, k7, k8, k9, k10, k11]
def interned : List (Array UInt16 × Addr) := []
def slotsUsed : Nat := 258
def theMethod : MethodId := ⟨1, 4⟩
def args0 : Array Value := #[.int 5, .int 7, .int 9, .int 1, .int 3, .int 4]
def aboutOver (below : List Frame) : State where
  vm := { classes := classes, interned := interned.toArray }
  heap := heap
  slotsUsed := slotsUsed
  threads := #[{ frames := .invoking theMethod args0 :: below }]
def below0 : List Frame := [.native { method := ⟨0, 0⟩, args := #[] }]
def about1 : State := aboutOver below0
def p0 : Program := .bare "" "" ""
def e0 : Env := launch0.env 0 0 0
theorem w_frames : about1.frames = Frame.invoking theMethod args0 :: below0 := rfl
set_option maxRecDepth 65536 in
theorem w_args : argsFit about1.vm theMethod args0 = true := by decide +kernel
set_option maxRecDepth 65536 in
theorem w_heap : heapFits about1 = true := by decide +kernel
set_option maxRecDepth 65536 in
theorem w_runnable : about1.curStatus? = some .runnable := by decide +kernel
set_option maxRecDepth 65536 in
theorem w_alone : about1.alone = true := by decide +kernel
set_option maxRecDepth 65536 in
theorem w_named : about1.methodNamed? x = some theMethod := by decide +kernel
set_option maxRecDepth 65536 in
theorem w_hears : about1.hears theMethod below0 = true := by decide +kernel
set_option maxRecDepth 65536 in
theorem w_ripe : about1.ripe theMethod args0 below0 = true := by decide +kernel
theorem w_running : about1.status = .running := rfl
set_option maxRecDepth 65536 in
theorem w_room : about1.hasRoom e0.platform room_1 = true :=
  launch0.hasRoom_least _ room_1 (by decide +kernel) (by decide +kernel) (by decide +kernel) (by decide +kernel) (by decide +kernel) (by decide +kernel)
theorem allAtoms_all (ts : List Jvm.Cond) (a : Array Jvm.Value) (st : Jvm.State) : (allAtoms ts).before a st = ts.all (fun c => c.before a st) := by
  induction ts with
  | nil => rfl
  | cons c t ih =>
    show (Jvm.Cond.and c (allAtoms t)).before a st = _
    rw [Jvm.Cond.before_and, ih, List.all_cons]
def words1 : List Jvm.Cond := Jvm.Cond.code x code maxLocals ret :: tables_1
/-- a 'code' word, met by the world's own term for the bytes: nothing is compared byte by byte -/
theorem code_word {y : MethodName} {bytes : ByteArray} {mx : Nat} {rt : Option FieldType} {a : Array Value} {s : State} {m : MethodId} {meth : Method} {c : Code} (h1 : s.methodNamed? y = some m) (h2 : s.vm.method? m = some meth) (h3 : meth.code = some c) (h4 : c.code = bytes)
    (h5 : (c.maxLocals == mx && c.exceptionTable.isEmpty && decide (c.maxStack ≤ mostOperands) && decide (meth.sig.returnType = rt) && !meth.locks && decide (parseMethodDescriptor y.desc = some meth.sig)) = true) : (Jvm.Cond.code y bytes mx rt).before a s = true := by
  simp only [Bool.and_eq_true, beq_iff_eq, Bool.not_eq_true', decide_eq_true_eq] at h5
  obtain ⟨⟨⟨⟨⟨g1, g2⟩, g3⟩, g4⟩, g5⟩, g6⟩ := h5
  simp [Cond.before, Cond.holds, Cond.value, h1, h2, h3, h4, g1, g2, g3, g4, g5, g6]
def isCode : Jvm.Cond → Bool
  | .code _ _ _ _ => true
  | _ => false
theorem all_split {L : List Jvm.Cond} {P : Jvm.Cond → Bool} (h1 : L.all (fun c => isCode c || P c) = true) (h2 : ∀ c ∈ L.filter isCode, P c = true) : L.all P = true := by
  refine List.all_eq_true.mpr fun c hc => ?_
  have h := List.all_eq_true.mp h1 c hc
  rcases Bool.eq_false_or_eq_true (isCode c) with hi | hi
  · exact h2 c (List.mem_filter.mpr ⟨hc, hi⟩)
  · simpa [hi] using h
set_option maxRecDepth 65536 in
theorem w_c0 : (Jvm.Cond.code x code maxLocals ret).before args0 about1 = true := code_word (m := ⟨1, 4⟩) (meth := k1m4) (c := k1c4) (by decide +kernel) rfl rfl rfl (by decide +kernel)
set_option maxRecDepth 65536 in
theorem w_c1 : (Jvm.Cond.code ({ cls := "com/example/leeway/leeway/service/HeaderFieldsTrimmedEndPinLaw", name := "draw", desc := "(I)B" } : Jvm.MethodName) method_2_code (2 : Nat) (Option.some Jvm.ClassFile.FieldType.byte)).before args0 about1 = true := code_word (m := ⟨1, 1⟩) (meth := k1m1) (c := k1c1) (by decide +kernel) rfl rfl rfl (by decide +kernel)
set_option maxRecDepth 65536 in
theorem w_c2 : (Jvm.Cond.code ({ cls := "java/lang/Math", name := "min", desc := "(II)I" } : Jvm.MethodName) jdk_29_method_69_code (2 : Nat) (Option.some Jvm.ClassFile.FieldType.int)).before args0 about1 = true := code_word (m := ⟨2, 2⟩) (meth := k2m2) (c := k2c2) (by decide +kernel) rfl rfl rfl (by decide +kernel)
set_option maxRecDepth 65536 in
theorem w_c3 : (Jvm.Cond.code ({ cls := "java/lang/Math", name := "max", desc := "(II)I" } : Jvm.MethodName) jdk_29_method_65_code (2 : Nat) (Option.some Jvm.ClassFile.FieldType.int)).before args0 about1 = true := code_word (m := ⟨2, 1⟩) (meth := k2m1) (c := k2c1) (by decide +kernel) rfl rfl rfl (by decide +kernel)
set_option maxRecDepth 65536 in
theorem w_c4 : (Jvm.Cond.code ({ cls := "com/example/leeway/leeway/service/HeaderFields", name := "trimmedEnd", desc := "([BII)I" } : Jvm.MethodName) prog_122_method_8_code (4 : Nat) (Option.some Jvm.ClassFile.FieldType.int)).before args0 about1 = true := code_word (m := ⟨3, 0⟩) (meth := k3m0) (c := k3c0) (by decide +kernel) rfl rfl rfl (by decide +kernel)
set_option maxRecDepth 65536 in
theorem w_c5 : (Jvm.Cond.code ({ cls := "com/example/leeway/leeway/service/HeaderFieldsTrimmedEndPinLaw", name := "sp", desc := "(B)Z" } : Jvm.MethodName) method_3_code (2 : Nat) (Option.some Jvm.ClassFile.FieldType.boolean)).before args0 about1 = true := code_word (m := ⟨1, 2⟩) (meth := k1m2) (c := k1c2) (by decide +kernel) rfl rfl rfl (by decide +kernel)
set_option maxRecDepth 65536 in
theorem w_c6 : (Jvm.Cond.code ({ cls := "com/example/leeway/leeway/service/HeaderFieldsTrimmedEndPinLaw", name := "tailOk", desc := "([BIII)Z" } : Jvm.MethodName) method_4_code (4 : Nat) (Option.some Jvm.ClassFile.FieldType.boolean)).before args0 about1 = true := code_word (m := ⟨1, 3⟩) (meth := k1m3) (c := k1c3) (by decide +kernel) rfl rfl rfl (by decide +kernel)
def codes1 : List Jvm.Cond := [Jvm.Cond.code x code maxLocals ret, Jvm.Cond.code ({ cls := "com/example/leeway/leeway/service/HeaderFieldsTrimmedEndPinLaw", name := "draw", desc := "(I)B" } : Jvm.MethodName) method_2_code (2 : Nat) (Option.some Jvm.ClassFile.FieldType.byte), Jvm.Cond.code ({ cls := "java/lang/Math", name := "min", desc := "(II)I" } : Jvm.MethodName) jdk_29_method_69_code (2 : Nat) (Option.some Jvm.ClassFile.FieldType.int), Jvm.Cond.code ({ cls := "java/lang/Math", name := "max", desc := "(II)I" } : Jvm.MethodName) jdk_29_method_65_code (2 : Nat) (Option.some Jvm.ClassFile.FieldType.int), Jvm.Cond.code ({ cls := "com/example/leeway/leeway/service/HeaderFields", name := "trimmedEnd", desc := "([BII)I" } : Jvm.MethodName) prog_122_method_8_code (4 : Nat) (Option.some Jvm.ClassFile.FieldType.int), Jvm.Cond.code ({ cls := "com/example/leeway/leeway/service/HeaderFieldsTrimmedEndPinLaw", name := "sp", desc := "(B)Z" } : Jvm.MethodName) method_3_code (2 : Nat) (Option.some Jvm.ClassFile.FieldType.boolean), Jvm.Cond.code ({ cls := "com/example/leeway/leeway/service/HeaderFieldsTrimmedEndPinLaw", name := "tailOk", desc := "([BIII)Z" } : Jvm.MethodName) method_4_code (4 : Nat) (Option.some Jvm.ClassFile.FieldType.boolean)]
set_option maxRecDepth 65536 in
theorem codes_eq : words1.filter isCode = codes1 := rfl
theorem w_codes : ∀ c ∈ words1.filter isCode, c.before args0 about1 = true := by
  rw [codes_eq]
  intro c hc
  simp only [codes1, List.mem_cons, List.not_mem_nil, or_false] at hc
  rcases hc with rfl | rfl | rfl | rfl | rfl | rfl | rfl
  · exact w_c0
  · exact w_c1
  · exact w_c2
  · exact w_c3
  · exact w_c4
  · exact w_c5
  · exact w_c6
set_option maxRecDepth 65536 in
theorem w_t1 : (words1.take 24).all (fun c => isCode c || c.before args0 about1) = true := by decide +kernel
set_option maxRecDepth 65536 in
theorem w_t2 : (words1.drop 24).all (fun c => isCode c || c.before args0 about1) = true := by decide +kernel
theorem w_tables : (allAtoms (Jvm.Cond.code x code maxLocals ret :: tables_1)).before args0 about1 = true := by
  rw [allAtoms_all]
  show words1.all (fun c => c.before args0 about1) = true
  refine all_split ?_ w_codes
  rw [← List.take_append_drop 24 words1, List.all_append, w_t1, w_t2]
  rfl
set_option maxRecDepth 65536 in
theorem w_case : (Jvm.Cond.and given_1 narrow_1).before args0 about1 = true := by decide +kernel
theorem w_applies : (headSpec (Jvm.Cond.code x code maxLocals ret :: tables_1) room_1).applies x e0.platform about1 = true :=
  (Spec.applies_iff w_frames).mpr ⟨w_running, w_runnable, w_alone, w_named, w_hears, w_ripe, w_room, w_tables⟩
theorem atStart : AtStart classFile x code maxLocals ret World_1 tables_1 room_1 Calls_1 rest_1 Pre_1 launch0 p0 e0 about1 theMethod args0 below0 :=
  ⟨lists_1, trivial, launch0.admits_env _ _ _, launch0.least_env, fairChoices_fair.cas, fairChoices_fair.clock, w_frames, w_args, w_heap, w_applies, trivial, trivial, w_case⟩
end start1
theorem witness_1 : WitnessClaimed_1 := ⟨start1.p0, start1.e0, start1.about1, start1.theMethod, start1.args0, start1.below0, start1.atStart⟩
end Jvm.Pilot.@@N@@
