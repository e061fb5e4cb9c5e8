import JvmDerived
import JvmDerived.Pilot.@@N@@Statement
import JvmDerived.Pilot.@@N@@Code
set_option linter.unusedVariables false
set_option linter.unusedSimpArgs false
namespace Jvm.Ow
open Sem ClassFile Op Lib Jvm.Stand Jvm.Free Jvm.LawKit Jvm.RoadKit
def WideEnd (s : State) (o : Outcome) (t : State) (L : List Loc) (k n : Nat) : Prop :=
  (∃ v : Option Value, o = Outcome.returned v) ∧ s.Warmed39 t.vm ∧ (∀ (j : Nat) (p : Array UInt16 × Addr), s.vm.interned.size ≤ j → t.vm.interned[j]? = some p → s.heap.size ≤ p.2 ∧ p.2 < t.heap.size) ∧ s.sameButNew { t with vm := s.vm } L k n
def EndF (wd : Bool) (s : State) (o : Outcome) (t : State) (L : List Loc) (k n : Nat) : Prop := match wd with
  | true => WideEnd s o t L k n
  | false => FrameEnd s o t L k n
theorem EndF.of {wd : Bool} {s : State} {o : Outcome} {t : State} {L : List Loc} {k n : Nat} (h : FrameEnd s o t L k n) : EndF wd s o t L k n := by
  cases wd
  · exact h
  · exact wide h
def Cx (p : Program) (l : Launch) (e : Env) (R : Room) (m : MethodId) (args : Array Value) (below : List Frame) (meth : Method) (c : Code) (Z : State) (y : MethodName) (bytes : ByteArray) (ml : Nat) (ret : Option FieldType) (n0 : Nat) (wd : Bool) (F : Outcome → State → List Loc → Prop) (T : State) (h : Heap) (cells slots : Nat) : Prop :=
  ∃ s locs, Stand p l e R s m args below meth c T locs cells slots ∧ p.tables.exec = Jvm.exec ∧ c.code = bytes ∧ c.maxLocals = ml ∧ Z.Warmed39 s.vm ∧ s.vm.findClass y.cls = some m.cls ∧ meth.name = y.name ∧ meth.sig.returnType = ret ∧ meth.locks = false ∧ T.heap = h ∧ Fr n0 locs ∧ n0 ≤ s.heap.size ∧ ∀ o t L, h.size ≤ t.heap.size → EndF wd s o t L R.cells R.slots → F o t L
def Go (p : Program) (e : Env) (below : List Frame) (F : Outcome → State → List Loc → Prop) (n0 : Nat) (Q : Option Value → Heap → Prop) (T : State) (f : JFrame) : Prop :=
  ∃ s₂ o, Steps p.tables e below (T.setTop f) s₂ ∧ s₂.status = .running ∧ Ended s₂ below o ∧ ∃ v L, o = .returned v ∧ (Q v s₂.heap ∧ Fr n0 L ∧ n0 ≤ s₂.heap.size) ∧ F o s₂ L
def Ctr (l : Launch) (Z : State) (y : MethodName) (bytes : ByteArray) (ml : Nat) (ret : Option FieldType) (R : Room) (as' : Array Value) (h : Heap) (n0 : Nat) (Q : Option Value → Heap → Prop) : Prop :=
  ∀ ws : List Jvm.Cond, MetFree l y (head1 (Jvm.Cond.code y bytes ml ret :: ws) R) (fun a U => a = as' ∧ Z.Warmed39 U.vm ∧ U.heap = h) (fun _ _ _ _ _ => True) (fun _ U o U' => ∃ v L, o = .returned v ∧ ((Q v U'.heap ∧ h.size ≤ U'.heap.size) ∧ Fr n0 L) ∧ FrameEnd U o U' L R.cells R.slots)
section Layer
variable {p : Program} {l : Launch} {e : Env} {R : Room} {m : MethodId} {args : Array Value} {below : List Frame} {meth : Method} {c : Code} {T T' : State} {cells slots : Nat} {Z : State} {a0 : Array Value} {h : Heap} {y : MethodName} {bytes : ByteArray} {ml n0 : Nat} {ret : Option FieldType} {wd : Bool} {F : Outcome → State → List Loc → Prop} {Q : Option Value → Heap → Prop} {pc pc' : Nat} {L L' : Array Slot} {S : List Value}
theorem Ctr.body {as' : Array Value} (hpl : plainFor y = true) (hn : n0 ≤ h.size) (ef : ∀ m, entryFrame m as' ml = mkF m 0 L [])
    (k : ∀ (p : Program) (e : Env) (F : Outcome → State → List Loc → Prop) (m : MethodId) (below : List Frame) (meth : Method) (c : Code) (T : State), Cx p l e R m as' below meth c Z y bytes ml ret n0 false F T h 0 0 → Go p e below F n0 Q T (mkF m 0 L [])) : Ctr l Z y bytes ml ret R as' h n0 Q := by
  intro ws
  refine MetFree.of_bodySF hpl hisR ?_
  intro p e s m args below meth c s₁ Bd hml0 hP hK
  obtain ⟨rfl, hZ, hh⟩ := hP
  obtain ⟨s₂, o, g1, g2, g3, v, L9, g4, ⟨g5, g6, -⟩, g7⟩ := k p e (fun o t L => FrameEnd s o t L R.cells R.slots) m below meth c s₁ ⟨s, [], Stand.of_body Bd, Bd.exec, Bd.bytes, hml0, hZ, findClass_of_methodNamed Bd.named, (name_of_methodNamed Bd.named Bd.method).1, Bd.returns, Bd.notSynchronized, by rw [← hh, Bd.state]; rfl, Fr.nil n0, by rw [hh]; exact hn, fun _ _ _ _ q => q⟩
  rw [ef m]
  exact ⟨s₂, o, g1, g2, g3, v, L9, g4, ⟨⟨g5, by rw [← hh]; exact g7.2.2.2.1⟩, g6⟩, g7⟩
theorem Go.via {f f' : JFrame} (k : Go p e below F n0 Q T' f') (hs : ∀ t, Steps p.tables e below (T'.setTop f') t → Steps p.tables e below (T.setTop f) t) : Go p e below F n0 Q T f := by
  obtain ⟨s₂, o, h1, h2⟩ := k; exact ⟨s₂, o, hs _ h1, h2⟩
theorem Cx.size (C : Cx p l e R m args below meth c Z y bytes ml ret n0 wd F T h cells slots) : n0 ≤ h.size := by
  obtain ⟨s, locs, X, -, -, -, -, -, -, -, -, rfl, -, hn, -⟩ := C
  exact Nat.le_trans hn X.same.2.1
theorem Cx.iloadN (C : Cx p l e R m args below meth c Z y bytes ml ret n0 wd F T h cells slots) {k : Fin 4} {v : Int32} (hd : decode bytes pc = .ok (.iload_n k, 1)) (hp : pc + 1 = pc') (hl : L[k.val]? = some (.val (.int v))) (K : Go p e below F n0 Q T (mkF m pc' L (.int v :: S))) : Go p e below F n0 Q T (mkF m pc L S) := by
  obtain ⟨s, locs, X, hx, rfl, -⟩ := C; subst hp
  exact K.via fun t k => XS.iloadN X.here hx rfl hd hl k
theorem Cx.iload (C : Cx p l e R m args below meth c Z y bytes ml ret n0 wd F T h cells slots) {k : Nat} {v : Int32} (hd : decode bytes pc = .ok (.iload k, 2)) (hp : pc + 2 = pc') (hl : L[k]? = some (.val (.int v))) (K : Go p e below F n0 Q T (mkF m pc' L (.int v :: S))) : Go p e below F n0 Q T (mkF m pc L S) := by
  obtain ⟨s, locs, X, hx, rfl, -⟩ := C; subst hp
  exact K.via fun t k => XS.iload X.here hx rfl hd hl k
theorem Cx.istore (C : Cx p l e R m args below meth c Z y bytes ml ret n0 wd F T h cells slots) {k : Nat} {x : Int32} (hd : decode bytes pc = .ok (.istore k, 2)) (hp : pc + 2 = pc') (hl : storeLocals L k (.int x) = some L') (K : Go p e below F n0 Q T (mkF m pc' L' S)) : Go p e below F n0 Q T (mkF m pc L (.int x :: S)) := by
  obtain ⟨s, locs, X, hx, rfl, -⟩ := C; subst hp
  exact K.via fun t k => XS.istore X.here hx rfl hd rfl hl k
theorem Cx.istoreV (C : Cx p l e R m args below meth c Z y bytes ml ret n0 wd F T h cells slots) {k : Nat} {x : Int32} (Lf : Int32 → Array Slot) (hd : decode bytes pc = .ok (.istore k, 2)) (hp : pc + 2 = pc') (hl : ∀ v, storeLocals L k (.int v) = some (Lf v)) (K : ∀ v, v = x → Go p e below F n0 Q T (mkF m pc' (Lf v) S)) : Go p e below F n0 Q T (mkF m pc L (.int x :: S)) :=
  C.istore hd hp (hl x) (K x rfl)
theorem Cx.aloadN (C : Cx p l e R m args below meth c Z y bytes ml ret n0 wd F T h cells slots) {k : Fin 4} {v : Value} (hd : decode bytes pc = .ok (.aload_n k, 1)) (hp : pc + 1 = pc') (hl : L[k.val]? = some (.val v)) (hv : v.isRef = true) (K : Go p e below F n0 Q T (mkF m pc' L (v :: S))) : Go p e below F n0 Q T (mkF m pc L S) := by
  obtain ⟨s, locs, X, hx, rfl, -⟩ := C; subst hp
  exact K.via fun t k => XS.aloadN X.here hx rfl hd hl hv k
theorem Cx.aload (C : Cx p l e R m args below meth c Z y bytes ml ret n0 wd F T h cells slots) {k : Nat} {v : Value} (hd : decode bytes pc = .ok (.aload k, 2)) (hp : pc + 2 = pc') (hl : L[k]? = some (.val v)) (hv : v.isRef = true) (K : Go p e below F n0 Q T (mkF m pc' L (v :: S))) : Go p e below F n0 Q T (mkF m pc L S) := by
  obtain ⟨s, locs, X, hx, rfl, -⟩ := C; subst hp
  exact K.via fun t k => XS.aload X.here hx rfl hd hl hv k
theorem Cx.astoreN (C : Cx p l e R m args below meth c Z y bytes ml ret n0 wd F T h cells slots) {k : Fin 4} {x : Value} (hd : decode bytes pc = .ok (.astore_n k, 1)) (hp : pc + 1 = pc') (hv : x.isRef = true) (hl : storeLocals L k.val x = some L') (K : Go p e below F n0 Q T (mkF m pc' L' S)) : Go p e below F n0 Q T (mkF m pc L (x :: S)) := by
  obtain ⟨s, locs, X, hx, rfl, -⟩ := C; subst hp
  exact K.via fun t k => XS.astoreN X.here hx rfl hd rfl hv hl k
theorem Cx.astore (C : Cx p l e R m args below meth c Z y bytes ml ret n0 wd F T h cells slots) {k : Nat} {x : Value} (hd : decode bytes pc = .ok (.astore k, 2)) (hp : pc + 2 = pc') (hv : x.isRef = true) (hl : storeLocals L k x = some L') (K : Go p e below F n0 Q T (mkF m pc' L' S)) : Go p e below F n0 Q T (mkF m pc L (x :: S)) := by
  obtain ⟨s, locs, X, hx, rfl, -⟩ := C; subst hp
  exact K.via fun t k => XS.astore X.here hx rfl hd rfl hv hl k
theorem Cx.iconst (C : Cx p l e R m args below meth c Z y bytes ml ret n0 wd F T h cells slots) {i : Int} (v : Int32) (hd : decode bytes pc = .ok (.iconst i, 1)) (hp : pc + 1 = pc') (hv : Int32.ofInt i = v) (K : Go p e below F n0 Q T (mkF m pc' L (.int v :: S))) : Go p e below F n0 Q T (mkF m pc L S) := by
  obtain ⟨s, locs, X, hx, rfl, -⟩ := C; subst hp
  exact K.via fun t k => XT.iconstV X.here hx rfl v hd hv k
theorem Cx.bipush (C : Cx p l e R m args below meth c Z y bytes ml ret n0 wd F T h cells slots) {i : Int} (v : Int32) (hd : decode bytes pc = .ok (.bipush i, 2)) (hp : pc + 2 = pc') (hv : (Int8.ofInt i).toInt32 = v) (K : Go p e below F n0 Q T (mkF m pc' L (.int v :: S))) : Go p e below F n0 Q T (mkF m pc L S) := by
  obtain ⟨s, locs, X, hx, rfl, -⟩ := C; subst hp
  exact K.via fun t k => XT.bipushV X.here hx rfl v hd hv k
theorem Cx.sipush (C : Cx p l e R m args below meth c Z y bytes ml ret n0 wd F T h cells slots) {i : Int} (v : Int32) (hd : decode bytes pc = .ok (.sipush i, 3)) (hp : pc + 3 = pc') (hv : (Int16.ofInt i).toInt32 = v) (K : Go p e below F n0 Q T (mkF m pc' L (.int v :: S))) : Go p e below F n0 Q T (mkF m pc L S) := by
  obtain ⟨s, locs, X, hx, rfl, -⟩ := C; subst hp
  exact K.via fun t k => XT.sipushV X.here hx rfl v hd hv k
theorem Cx.iadd (C : Cx p l e R m args below meth c Z y bytes ml ret n0 wd F T h cells slots) {x z : Int32} (hd : decode bytes pc = .ok (.iadd, 1)) (hp : pc + 1 = pc')  (K : Go p e below F n0 Q T (mkF m pc' L (.int (x + z) :: S))) : Go p e below F n0 Q T (mkF m pc L (.int z :: .int x :: S)) := by
  obtain ⟨s, locs, X, hx, rfl, -⟩ := C; subst hp
  exact K.via fun t k => XS.iadd X.here hx rfl hd rfl k
theorem Cx.iand (C : Cx p l e R m args below meth c Z y bytes ml ret n0 wd F T h cells slots) {x z : Int32} (hd : decode bytes pc = .ok (.iand, 1)) (hp : pc + 1 = pc')  (K : Go p e below F n0 Q T (mkF m pc' L (.int (x &&& z) :: S))) : Go p e below F n0 Q T (mkF m pc L (.int z :: .int x :: S)) := by
  obtain ⟨s, locs, X, hx, rfl, -⟩ := C; subst hp
  exact K.via fun t k => XS.iand X.here hx rfl hd rfl k
theorem Cx.iushr (C : Cx p l e R m args below meth c Z y bytes ml ret n0 wd F T h cells slots) {x z : Int32} (hd : decode bytes pc = .ok (.iushr, 1)) (hp : pc + 1 = pc')  (K : Go p e below F n0 Q T (mkF m pc' L (.int ((x.toUInt32 >>> (z &&& 31).toUInt32).toInt32) :: S))) : Go p e below F n0 Q T (mkF m pc L (.int z :: .int x :: S)) := by
  obtain ⟨s, locs, X, hx, rfl, -⟩ := C; subst hp
  exact K.via fun t k => XS.iushr X.here hx rfl hd rfl k
theorem Cx.i2b (C : Cx p l e R m args below meth c Z y bytes ml ret n0 wd F T h cells slots) {x : Int32} (hd : decode bytes pc = .ok (.i2b, 1)) (hp : pc + 1 = pc')  (K : Go p e below F n0 Q T (mkF m pc' L (.int (x.toInt8.toInt32) :: S))) : Go p e below F n0 Q T (mkF m pc L (.int x :: S)) := by
  obtain ⟨s, locs, X, hx, rfl, -⟩ := C; subst hp
  exact K.via fun t k => XT.i2b X.here hx rfl hd rfl k
theorem Cx.i2c (C : Cx p l e R m args below meth c Z y bytes ml ret n0 wd F T h cells slots) {x : Int32} (hd : decode bytes pc = .ok (.i2c, 1)) (hp : pc + 1 = pc')  (K : Go p e below F n0 Q T (mkF m pc' L (.int (x.toUInt32.toUInt16.toUInt32.toInt32) :: S))) : Go p e below F n0 Q T (mkF m pc L (.int x :: S)) := by
  obtain ⟨s, locs, X, hx, rfl, -⟩ := C; subst hp
  exact K.via fun t k => XT.i2c X.here hx rfl hd rfl k
theorem Cx.dup (C : Cx p l e R m args below meth c Z y bytes ml ret n0 wd F T h cells slots) {x : Value} (hd : decode bytes pc = .ok (.dup, 1)) (hp : pc + 1 = pc') (hc : x.category = 1) (K : Go p e below F n0 Q T (mkF m pc' L (x :: x :: S))) : Go p e below F n0 Q T (mkF m pc L (x :: S)) := by
  obtain ⟨s, locs, X, hx, rfl, -⟩ := C; subst hp
  exact K.via fun t k => XS.dup X.here hx rfl hd rfl hc k
theorem Cx.pop (C : Cx p l e R m args below meth c Z y bytes ml ret n0 wd F T h cells slots) {x : Value} (hd : decode bytes pc = .ok (.pop, 1)) (hp : pc + 1 = pc') (hc : x.category = 1) (K : Go p e below F n0 Q T (mkF m pc' L S)) : Go p e below F n0 Q T (mkF m pc L (x :: S)) := by
  obtain ⟨s, locs, X, hx, rfl, -⟩ := C; subst hp
  exact K.via fun t k => XT.pop X.here hx rfl hd rfl hc k
theorem Cx.dupX1 (C : Cx p l e R m args below meth c Z y bytes ml ret n0 wd F T h cells slots) {x z : Value} (hd : decode bytes pc = .ok (.dup_x1, 1)) (hp : pc + 1 = pc') (hc : x.category = 1) (hc' : z.category = 1) (K : Go p e below F n0 Q T (mkF m pc' L (x :: z :: x :: S))) : Go p e below F n0 Q T (mkF m pc L (x :: z :: S)) := by
  obtain ⟨s, locs, X, hx, rfl, -⟩ := C; subst hp
  exact K.via fun t k => XT.dupX1 X.here hx rfl hd rfl hc hc' k
theorem Cx.goto (C : Cx p l e R m args below meth c Z y bytes ml ret n0 wd F T h cells slots) {o : Int} (hd : decode bytes pc = .ok (.goto o, 3)) (ho : 0 ≤ (pc : Int) + o) (hp : ((pc : Int) + o).toNat = pc') (K : Go p e below F n0 Q T (mkF m pc' L S)) : Go p e below F n0 Q T (mkF m pc L S) := by
  obtain ⟨s, locs, X, hx, rfl, -⟩ := C
  exact K.via fun t k => XS.goto X.here hx rfl rfl hd ho hp k
theorem Cx.if_eq (C : Cx p l e R m args below meth c Z y bytes ml ret n0 wd F T h cells slots) {x : Int32} {o : Int} {py pn : Nat} (hd : decode bytes pc = .ok (.ifCond .eq o, 3)) (ho : 0 ≤ (pc : Int) + o) (hy : ((pc : Int) + o).toNat = py) (hn : pc + 3 = pn) (K1 : x = (0 : Int32) → Go p e below F n0 Q T (mkF m py L S)) (K2 : ¬ x = (0 : Int32) → Go p e below F n0 Q T (mkF m pn L S)) : Go p e below F n0 Q T (mkF m pc L (.int x :: S)) := by
  obtain ⟨s, locs, X, hx, rfl, -⟩ := C; subst hn
  by_cases q : x = (0 : Int32)
  · exact (K1 q).via fun t k => XS.ifYes X.here hx rfl rfl hd rfl (XT.i0_eq_t q) ho hy k
  · exact (K2 q).via fun t k => XS.ifNo X.here hx rfl hd rfl (XT.i0_eq_f q) k
theorem Cx.icmp_ne (C : Cx p l e R m args below meth c Z y bytes ml ret n0 wd F T h cells slots) {x z : Int32} {o : Int} {py pn : Nat} (hd : decode bytes pc = .ok (.if_icmp .ne o, 3)) (ho : 0 ≤ (pc : Int) + o) (hy : ((pc : Int) + o).toNat = py) (hn : pc + 3 = pn) (K1 : ¬ x = z → Go p e below F n0 Q T (mkF m py L S)) (K2 : x = z → Go p e below F n0 Q T (mkF m pn L S)) : Go p e below F n0 Q T (mkF m pc L (.int z :: .int x :: S)) := by
  obtain ⟨s, locs, X, hx, rfl, -⟩ := C; subst hn
  by_cases q : x = z
  · exact (K2 q).via fun t k => XS.icmpNo X.here hx rfl hd rfl (XT.ii_ne_f q) k
  · exact (K1 q).via fun t k => XS.icmpYes X.here hx rfl rfl hd rfl (XT.ii_ne_t q) ho hy k
theorem Cx.if_ne (C : Cx p l e R m args below meth c Z y bytes ml ret n0 wd F T h cells slots) {x : Int32} {o : Int} {py pn : Nat} (hd : decode bytes pc = .ok (.ifCond .ne o, 3)) (ho : 0 ≤ (pc : Int) + o) (hy : ((pc : Int) + o).toNat = py) (hn : pc + 3 = pn) (K1 : ¬ x = (0 : Int32) → Go p e below F n0 Q T (mkF m py L S)) (K2 : x = (0 : Int32) → Go p e below F n0 Q T (mkF m pn L S)) : Go p e below F n0 Q T (mkF m pc L (.int x :: S)) := by
  obtain ⟨s, locs, X, hx, rfl, -⟩ := C; subst hn
  by_cases q : x = (0 : Int32)
  · exact (K2 q).via fun t k => XS.ifNo X.here hx rfl hd rfl (XT.i0_ne_f q) k
  · exact (K1 q).via fun t k => XS.ifYes X.here hx rfl rfl hd rfl (XT.i0_ne_t q) ho hy k
theorem Cx.icmp_lt (C : Cx p l e R m args below meth c Z y bytes ml ret n0 wd F T h cells slots) {x z : Int32} {o : Int} {py pn : Nat} (hd : decode bytes pc = .ok (.if_icmp .lt o, 3)) (ho : 0 ≤ (pc : Int) + o) (hy : ((pc : Int) + o).toNat = py) (hn : pc + 3 = pn) (K1 : x < z → Go p e below F n0 Q T (mkF m py L S)) (K2 : ¬ x < z → Go p e below F n0 Q T (mkF m pn L S)) : Go p e below F n0 Q T (mkF m pc L (.int z :: .int x :: S)) := by
  obtain ⟨s, locs, X, hx, rfl, -⟩ := C; subst hn
  by_cases q : x < z
  · exact (K1 q).via fun t k => XS.icmpYes X.here hx rfl rfl hd rfl (XT.ii_lt_t q) ho hy k
  · exact (K2 q).via fun t k => XS.icmpNo X.here hx rfl hd rfl (XT.ii_lt_f q) k
theorem Cx.icmp_ge (C : Cx p l e R m args below meth c Z y bytes ml ret n0 wd F T h cells slots) {x z : Int32} {o : Int} {py pn : Nat} (hd : decode bytes pc = .ok (.if_icmp .ge o, 3)) (ho : 0 ≤ (pc : Int) + o) (hy : ((pc : Int) + o).toNat = py) (hn : pc + 3 = pn) (K1 : ¬ x < z → Go p e below F n0 Q T (mkF m py L S)) (K2 : x < z → Go p e below F n0 Q T (mkF m pn L S)) : Go p e below F n0 Q T (mkF m pc L (.int z :: .int x :: S)) := by
  obtain ⟨s, locs, X, hx, rfl, -⟩ := C; subst hn
  by_cases q : x < z
  · exact (K2 q).via fun t k => XS.icmpNo X.here hx rfl hd rfl (XT.ii_ge_f q) k
  · exact (K1 q).via fun t k => XS.icmpYes X.here hx rfl rfl hd rfl (XT.ii_ge_t q) ho hy k
theorem Cx.icmp_gt (C : Cx p l e R m args below meth c Z y bytes ml ret n0 wd F T h cells slots) {x z : Int32} {o : Int} {py pn : Nat} (hd : decode bytes pc = .ok (.if_icmp .gt o, 3)) (ho : 0 ≤ (pc : Int) + o) (hy : ((pc : Int) + o).toNat = py) (hn : pc + 3 = pn) (K1 : z < x → Go p e below F n0 Q T (mkF m py L S)) (K2 : ¬ z < x → Go p e below F n0 Q T (mkF m pn L S)) : Go p e below F n0 Q T (mkF m pc L (.int z :: .int x :: S)) := by
  obtain ⟨s, locs, X, hx, rfl, -⟩ := C; subst hn
  by_cases q : z < x
  · exact (K1 q).via fun t k => XS.icmpYes X.here hx rfl rfl hd rfl (XT.ii_gt_t q) ho hy k
  · exact (K2 q).via fun t k => XS.icmpNo X.here hx rfl hd rfl (XT.ii_gt_f q) k
theorem Cx.done (C : Cx p l e R m args below meth c Z y bytes ml ret n0 wd F T h cells slots) {v : Option Value} (hv : ret = none → v = none) (hc : cells ≤ R.cells) (hs : slots ≤ R.slots) (hq : Q v h) {f : JFrame}
    (k : ∀ s locs fs, Stand p l e R s m args below meth c T locs cells slots → (∀ (f : JFrame) (acts : List Action), f.method = m → f.locked = none → f.entered = [] → (doReturn e (T.setTop f) acts v).1 = T.setFrames fs) → Steps p.tables e below (T.setTop f) (T.setFrames fs)) : Go p e below F n0 Q T f := by
  have hz := C.size
  obtain ⟨s, locs, X, hx, rfl, rfl, hZ, hown, hnm, rfl, hlk, rfl, N, hn, hF⟩ := C
  obtain ⟨fs, hr, hrun, hended, hW, hsame⟩ := X.leave (v := v) hv
  exact ⟨_, _, k s locs fs X hr, hrun, hended, v, locs, rfl, ⟨hq, N, hz⟩, hF _ _ _ (Nat.le_refl _) (EndF.of ⟨⟨v, rfl⟩, hW, hsame.mono hc hs⟩)⟩
theorem Cx.retN (C : Cx p l e R m args below meth c Z y bytes ml ret n0 wd F T h cells slots) {z w : Int32} {t : FieldType} (hd : decode bytes pc = .ok (.ireturn, 1)) (hret : ret = some t) (ht : t = .boolean ∨ t = .byte ∨ t = .char ∨ t = .short) (hc : cells ≤ R.cells) (hs : slots ≤ R.slots) (hw : nar t z = w) (hq : Q (some (.int w)) h) : Go p e below F n0 Q T (mkF m pc L (.int z :: S)) := by
  subst hw
  refine C.done (fun q => by rw [hret] at q; cases q) hc hs hq fun s locs fs X hr => ?_
  obtain ⟨_, _, -, hx, rfl, -, -, -, -, rfl, -⟩ := C
  exact Jvm.RoadKit.retN X hx hret ht hd hr
theorem Cx.retA (C : Cx p l e R m args below meth c Z y bytes ml ret n0 wd F T h cells slots) {w : Value} {t : FieldType} (hd : decode bytes pc = .ok (.areturn, 1)) (hret : ret = some t) (ht : t.isReference = true) (hw : w.isRef = true) (hc : cells ≤ R.cells) (hs : slots ≤ R.slots) (hq : Q (some w) h) : Go p e below F n0 Q T (mkF m pc L (w :: S)) := by
  refine C.done (fun q => by rw [hret] at q; cases q) hc hs hq fun s locs fs X hr => ?_
  obtain ⟨_, _, -, hx, rfl, -, -, -, -, rfl, -⟩ := C
  refine retOut X hx hret ?_ (Or.inr (Or.inr (Or.inr (Or.inr ⟨rfl, ht, hw⟩)))) hd hr
  rcases ref_cases hw with rfl | ⟨a, rfl⟩ <;> cases t <;> first | rfl | (simp [FieldType.isReference] at ht)
theorem Cx.retV (C : Cx p l e R m args below meth c Z y bytes ml ret n0 wd F T h cells slots) (hd : decode bytes pc = .ok (.return_, 1)) (hret : ret = none) (hc : cells ≤ R.cells) (hs : slots ≤ R.slots) (hq : Q none h) : Go p e below F n0 Q T (mkF m pc L []) := by
  refine C.done (fun q => rfl) hc hs hq fun s locs fs X hr => ?_
  obtain ⟨_, _, -, hx, rfl, -, -, -, -, rfl, -⟩ := C
  exact X.returnOut hx hret hd hr
theorem Cx.ldc (C : Cx p l e R m args below meth c Z y bytes ml ret n0 wd F T h cells slots) {idx : Nat} {v : Int32} (w : (Jvm.Cond.constant y.cls idx v).before a0 Z = true) (hd : decode bytes pc = .ok (.ldc idx, 2)) (hp : pc + 2 = pc') (K : Go p e below F n0 Q T (mkF m pc' L (.int v :: S))) : Go p e below F n0 Q T (mkF m pc L S) := by
  obtain ⟨s, locs, X, hx, rfl, rfl, hZ, hown, -⟩ := C; subst hp
  exact K.via fun t k => X.ldcInt hx hown (mvT hZ w) (g := mkF m pc L S) rfl hd t k
theorem Cx.callS (C : Cx p l e R m args below meth c Z y bytes ml ret n0 wd F T h cells slots) {idx : Nat} {y' : MethodName} {bytes' : ByteArray} {ml' : Nat} {ret' : Option FieldType} {R' : Room} {Q' : Option Value → Heap → Prop} {argsL : List Value} (w1 : (Jvm.Cond.methodLink y.cls idx y').before a0 Z = true) (w2 : (Jvm.Cond.static y').before a0 Z = true) (w3 : (Jvm.Cond.initialized y'.cls).before a0 Z = true) (w4 : (Jvm.Cond.code y' bytes' ml' ret').before a0 Z = true)
    (hy : y'.cls ≠ "java/lang/invoke/MethodHandle" ∧ y'.cls ≠ "java/lang/invoke/VarHandle") (M : Ctr l Z y' bytes' ml' ret' R' argsL.toArray h n0 Q') {ps : List FieldType} {rt : Option FieldType} (hpd : parseMethodDescriptor y'.desc = some ⟨ps, rt⟩) (hlen : argsL.length = ps.length)
    (W : Nat) (hf : R'.frames + 1 ≤ R.frames) (hl : W + (ml' + 11) + R'.locals ≤ R.locals) (hc : cells + R'.cells ≤ R.cells) (hs : slots + R'.slots ≤ R.slots) {rest : List Value} (hst : S = argsL.reverse ++ rest) (hsz : L.size = ml) (hW : (rest.map fun v => v.category).sum ≤ W)
    (hd : decode bytes pc = .ok (.invokestatic idx, 3)) (hp : pc + 3 = pc') (K : ∀ v T' h', Cx p l e R m args below meth c Z y bytes ml ret n0 wd F T' h' (cells + R'.cells) (slots + R'.slots) → Q' v h' → Go p e below F n0 Q T' (mkF m pc' L (v.toList ++ rest))) : Go p e below F n0 Q T (mkF m pc L S) := by
  obtain ⟨s, locs, X, hx, rfl, rfl, hZ, hown, hnm, hr, hlk, eT, N, hn, hF⟩ := C; subst hp
  obtain ⟨v, _, ⟨T', L', k', n'⟩, -, X', ⟨Lc, hQ, e1, e2, e3⟩, st⟩ := Jvm.LawKit.callS X hx (y := y') hown (mvT hZ w1) (mvT hZ w2) (mvT hZ w3) (mvT hZ w4) hy (backOf (W := W) (Q := fun v h9 L => (Q' v h9 ∧ h.size ≤ h9.size) ∧ Fr n0 L) (M []) hZ w4 w3 hf hl) (g := mkF m pc L S) rfl hsz (argsL := argsL) (rest := rest) (lenOf hpd hlen) hst (by show 2 * 0 + _ ≤ _; omega) hd (fun _ _ => ⟨rfl, eT, hc, hs⟩)
  dsimp only [Pt.U, Pt.locs, Pt.cells, Pt.slots] at X' e1 e2 e3 st hQ
  subst e1 e2 e3
  exact (K v T' T'.heap ⟨s, _, X', hx, rfl, rfl, hZ, hown, hnm, hr, hlk, rfl, N.app hQ.2, hn, fun o t L q => hF o t L (Nat.le_trans hQ.1.2 q)⟩ hQ.1.1).via st
theorem ext_keep {h h' : Heap} (K : Keep h h' []) : Ext h h' := ⟨K.1, fun a c q => K.2.1 a c q nin0⟩
theorem Cx.new (C : Cx p l e R m args below meth c Z y bytes ml ret n0 wd F T h cells slots) {idx n : Nat} {Cl : String} (w : (Jvm.Cond.classLink y.cls idx Cl).before a0 Z = true) (wi : (Jvm.Cond.instantiable Cl n).before a0 Z = true) (wz : (Jvm.Cond.initialized Cl).before a0 Z = true) (hd : decode bytes pc = .ok (.new idx, 3)) (hp : pc + 3 = pc') (hc : cells + 1 ≤ R.cells) (hl : slots + n ≤ R.slots)
    (K : ∀ T' h' b, Cx p l e R m args below meth c Z y bytes ml ret n0 wd F T' h' (cells + 1) (slots + n) → b = h.size → n0 ≤ b → Ext h h' → Exa Z h' b Cl → (∀ {O nm d : String} {ty : FieldType}, Laid Z a0 Cl O nm d → parseFieldDescriptor d = some ty → Fld Z h' b O nm d (defaultValue ty)) → Go p e below F n0 Q T' (mkF m pc' L (.ref b :: S))) : Go p e below F n0 Q T (mkF m pc L S) := by
  have hz := C.size
  obtain ⟨s, locs, X, hx, rfl, rfl, hZ, hown, hnm, hr, hlk, eT, N, hn, hF⟩ := C; subst hp
  obtain ⟨T', h', X', e', E, A, D, -, st⟩ := newO X hx hZ hown w wi wz eT (g := mkF m pc L S) rfl hd hc hl
  exact (K T' h' h.size ⟨s, locs, X', hx, rfl, rfl, hZ, hown, hnm, hr, hlk, e', N, hn, fun o t L q => hF o t L (Nat.le_trans E.1 q)⟩ rfl hz E A D).via st
theorem Cx.getF (C : Cx p l e R m args below meth c Z y bytes ml ret n0 wd F T h cells slots) {idx : Nat} {R0 O n d host : String} {a : Addr} {v : Value} (w : (Jvm.Cond.fieldLink y.cls idx R0 n d).before a0 Z = true ∨ (Jvm.Cond.fieldLinkNest y.cls idx R0 n d host).before a0 Z = true) (via : Via Z R0 O n d) (Fd : Fld Z h a O n d v) (hd : decode bytes pc = .ok (.getfield idx, 3)) (hp : pc + 3 = pc')
    (K : ∀ T', Cx p l e R m args below meth c Z y bytes ml ret n0 wd F T' h cells slots → Go p e below F n0 Q T' (mkF m pc' L (v :: S))) : Go p e below F n0 Q T (mkF m pc L (.ref a :: S)) := by
  obtain ⟨s, locs, X, hx, rfl, rfl, hZ, hown, hnm, hr, hlk, eT, N, hn, hF⟩ := C; subst hp
  obtain ⟨T', X', e', st⟩ := Jvm.RoadKit.getF X hx hZ hown w via eT Fd (g := mkF m pc L (.ref a :: S)) rfl rfl hd
  exact (K T' ⟨s, locs, X', hx, rfl, rfl, hZ, hown, hnm, hr, hlk, e', N, hn, hF⟩).via st
theorem Cx.getS (C : Cx p l e R m args below meth c Z y bytes ml ret n0 wd F T h cells slots) {idx : Nat} {R0 O n d host : String} {v : Value} (w : (Jvm.Cond.fieldLink y.cls idx R0 n d).before a0 Z = true ∨ (Jvm.Cond.fieldLinkNest y.cls idx R0 n d host).before a0 Z = true) (via : Via Z R0 O n d) (Fd : Sta Z h O n d v) (hd : decode bytes pc = .ok (.getstatic idx, 3)) (hp : pc + 3 = pc')
    (K : ∀ T', Cx p l e R m args below meth c Z y bytes ml ret n0 wd F T' h cells slots → Go p e below F n0 Q T' (mkF m pc' L (v :: S))) : Go p e below F n0 Q T (mkF m pc L S) := by
  obtain ⟨s, locs, X, hx, rfl, rfl, hZ, hown, hnm, hr, hlk, eT, N, hn, hF⟩ := C; subst hp
  obtain ⟨T', X', e', st⟩ := getS2 X hx hZ hown w via eT Fd (g := mkF m pc L S) rfl hd
  exact (K T' ⟨s, locs, X', hx, rfl, rfl, hZ, hown, hnm, hr, hlk, e', N, hn, hF⟩).via st
theorem Cx.putF (C : Cx p l e R m args below meth c Z y bytes ml ret n0 wd F T h cells slots) {idx kk : Nat} {R0 O n d host Cl : String} {a : Addr} {v old : Value} {ty : FieldType} (w : (Jvm.Cond.fieldLink y.cls idx R0 n d).before a0 Z = true ∨ (Jvm.Cond.fieldLinkNest y.cls idx R0 n d host).before a0 Z = true) (via : Via Z R0 O n d) (Fd : Fld Z h a O n d old) (E : Exa Z h a Cl) (Lw : (Jvm.Cond.lays Cl O n d).before a0 Z = true ∨ ((Jvm.Cond.laysFinal Cl O n d).before a0 Z = true ∧ y.cls = O ∧ y.name = "<init>")) (wi : (Jvm.Cond.instantiable Cl kk).before a0 Z = true)
    (hty : parseFieldDescriptor d = some ty) (hnr : narrow ty v = v) (hf : fits ty v = true) (g : n0 ≤ a) (hd : decode bytes pc = .ok (.putfield idx, 3)) (hp : pc + 3 = pc') (K : ∀ T' h', Cx p l e R m args below meth c Z y bytes ml ret n0 wd F T' h' cells slots → Wr h h' a (Jvm.RoadKit.slotOf Z O n d) v → Go p e below F n0 Q T' (mkF m pc' L S)) : Go p e below F n0 Q T (mkF m pc L (v :: .ref a :: S)) := by
  obtain ⟨s, locs, X, hx, rfl, rfl, hZ, hown, hnm, hr, hlk, eT, N, hn, hF⟩ := C; subst hp
  obtain ⟨T', h', X', e', W, st⟩ := Jvm.RoadKit.putF X hx hZ hown w via eT Fd E (Lw.imp id fun q => ⟨q.1, q.2.1, hnm.trans q.2.2⟩) wi hty hnr hf (g := mkF m pc L (v :: .ref a :: S)) rfl rfl hd
  exact (K T' h' ⟨s, _, X', hx, rfl, rfl, hZ, hown, hnm, hr, hlk, e', Fr.snoc X' N g, hn, fun o t L q => hF o t L (W.size ▸ q)⟩ W).via st
theorem Cx.putFN (C : Cx p l e R m args below meth c Z y bytes ml ret n0 wd F T h cells slots) {idx kk : Nat} {R0 O n d Cl : String} {a : Addr} {v v' old : Value} {ty : FieldType} (w : (Jvm.Cond.fieldLink y.cls idx R0 n d).before a0 Z = true) (via : Via Z R0 O n d) (Fd : Fld Z h a O n d old) (E : Exa Z h a Cl) (Lw : (Jvm.Cond.lays Cl O n d).before a0 Z = true ∨ ((Jvm.Cond.laysFinal Cl O n d).before a0 Z = true ∧ y.cls = O ∧ y.name = "<init>")) (wi : (Jvm.Cond.instantiable Cl kk).before a0 Z = true)
    (hty : parseFieldDescriptor d = some ty) (hnr : narrow ty v = v') (hf : fits ty v' = true) (g : n0 ≤ a) (hd : decode bytes pc = .ok (.putfield idx, 3)) (hp : pc + 3 = pc') (K : ∀ T' h', Cx p l e R m args below meth c Z y bytes ml ret n0 wd F T' h' cells slots → Wr h h' a (Jvm.RoadKit.slotOf Z O n d) v' → Go p e below F n0 Q T' (mkF m pc' L S)) : Go p e below F n0 Q T (mkF m pc L (v :: .ref a :: S)) := by
  obtain ⟨s, locs, X, hx, rfl, rfl, hZ, hown, hnm, hr, hlk, eT, N, hn, hF⟩ := C; subst hp
  obtain ⟨T', h', X', e', W, st⟩ := Jvm.RoadKit.putFN X hx hZ hown w via eT Fd E (Lw.imp id fun q => ⟨q.1, q.2.1, hnm.trans q.2.2⟩) wi hty hnr hf (g := mkF m pc L (v :: .ref a :: S)) rfl rfl hd
  exact (K T' h' ⟨s, _, X', hx, rfl, rfl, hZ, hown, hnm, hr, hlk, e', Fr.snoc X' N g, hn, fun o t L q => hF o t L (W.size ▸ q)⟩ W).via st
theorem Cx.initObj (C : Cx p l e R m args below meth c Z y bytes ml ret n0 wd F T h cells slots) {idx : Nat} {a : Addr} (w1 : (Jvm.Cond.methodLink y.cls idx Lib.objectInit).before a0 Z = true) (w2 : (Jvm.Cond.instanceMethod Lib.objectInit).before a0 Z = true) (w3 : (Jvm.Cond.code Lib.objectInit ⟨#[0xb1]⟩ 1 none).before a0 Z = true) (hsz : L.size = ml) (hf : 1 ≤ R.frames) (W : Nat) (hW : (S.map fun v => v.category).sum ≤ W) (hl : W + 12 ≤ R.locals) (hd : decode bytes pc = .ok (.invokespecial idx, 3)) (hp : pc + 3 = pc')
    (K : ∀ T', Cx p l e R m args below meth c Z y bytes ml ret n0 wd F T' h cells slots → Go p e below F n0 Q T' (mkF m pc' L S)) : Go p e below F n0 Q T (mkF m pc L (.ref a :: S)) := by
  obtain ⟨s, locs, X, hx, rfl, rfl, hZ, hown, hnm, hr, hlk, eT, N, hn, hF⟩ := C; subst hp
  obtain ⟨T', X', e', st⟩ := initO X hx hZ hown w1 w2 w3 eT (g := mkF m pc L (.ref a :: S)) rfl hsz rfl hd hf (W := W) (by show 2 * 0 + _ ≤ _; omega) hl
  exact (K T' ⟨s, locs, X', hx, rfl, rfl, hZ, hown, hnm, hr, hlk, e', N, hn, hF⟩).via st
theorem Cx.newarr (C : Cx p l e R m args below meth c Z y bytes ml ret n0 wd F T h cells slots) {aty : ArrayType} (w : (Jvm.Cond.arrayClass (newarray.typeOf aty)).before a0 Z = true) {n : Int32} (cap : Nat) (hn0 : ¬ n < 0) (hcap : n.toNatClampNeg ≤ cap) (hb : cap * 8 ≤ 536870912) (hc : cells + 1 ≤ R.cells) (hl : slots + cap ≤ R.slots) (hd : decode bytes pc = .ok (.newarray aty, 2)) (hp : pc + 2 = pc')
    (K : ∀ T' h' b k, Cx p l e R m args below meth c Z y bytes ml ret n0 wd F T' h' (cells + 1) (slots + cap) → b = h.size → n0 ≤ b → Ext h h' → Arv Z h' b k (newarray.typeOf aty) n (List.replicate cap (defaultValue (newarray.typeOf aty))) (defaultValue (newarray.typeOf aty)) → Go p e below F n0 Q T' (mkF m pc' L (.ref b :: S))) : Go p e below F n0 Q T (mkF m pc L (.int n :: S)) := by
  have hz := C.size
  obtain ⟨s, locs, X, hx, rfl, rfl, hZ, hown, hnm, hr, hlk, eT, N, hn, hF⟩ := C; subst hp
  obtain ⟨T', h', cA, X', e', E, A, st⟩ := newP X hx hZ w eT (g := mkF m pc L (.int n :: S)) rfl hd rfl hn0 (cap := cap) hcap hb hc hl
  exact (K T' h' h.size cA ⟨s, locs, X', hx, rfl, rfl, hZ, hown, hnm, hr, hlk, e', N, hn, fun o t L q => hF o t L (Nat.le_trans E.1 q)⟩ rfl hz E ((Arv.new A hn0).pad (pad_rep [] _ cap))).via st
theorem Cx.bastore (C : Cx p l e R m args below meth c Z y bytes ml ret n0 wd F T h cells slots) {a : Addr} {k : ClassId} {n j : Int32} {x : Int32} {vs : List Value} {dv : Value} (A : Arv Z h a k .byte n vs dv) (hj : ¬ j < 0 ∧ j < n) (hlen : j.toNatClampNeg < vs.length) (g : n0 ≤ a) (hd : decode bytes pc = .ok (.bastore, 1)) (hp : pc + 1 = pc')
    (K : ∀ T' h', Cx p l e R m args below meth c Z y bytes ml ret n0 wd F T' h' cells slots → Wr h h' a j.toNatClampNeg (.int (nar .byte x)) → Arv Z h' a k .byte n (vs.set j.toNatClampNeg (.int (nar .byte x))) dv → Go p e below F n0 Q T' (mkF m pc' L S)) : Go p e below F n0 Q T (mkF m pc L (.int x :: .int j :: .ref a :: S)) := by
  obtain ⟨s, locs, X, hx, rfl, rfl, hZ, hown, hnm, hr, hlk, eT, N, hn, hF⟩ := C; subst hp
  obtain ⟨cl, Ar, q1, Sz, q3, H, G⟩ := A
  obtain ⟨T', h', X', e', W, st⟩ := stB X hx hZ eT Ar (j := j) (inb_of Sz hj) (g := mkF m pc L (.int x :: .int j :: .ref a :: S)) rfl rfl hd
  exact (K T' h' ⟨s, _, X', hx, rfl, rfl, hZ, hown, hnm, hr, hlk, e', Fr.snoc X' N g, hn, fun o t L q => hF o t L (W.size ▸ q)⟩ W (Arv.set Ar q1 Sz q3 H G (fits_nar_byte _) W _ rfl hlen)).via st
theorem Cx.arrlen (C : Cx p l e R m args below meth c Z y bytes ml ret n0 wd F T h cells slots) {a : Addr} {k : ClassId} {n : Int32} {ty : FieldType} {vs : List Value} {dv : Value} (A : Arv Z h a k ty n vs dv) (hd : decode bytes pc = .ok (.arraylength, 1)) (hp : pc + 1 = pc') (K : Go p e below F n0 Q T (mkF m pc' L (.int n :: S))) : Go p e below F n0 Q T (mkF m pc L (.ref a :: S)) := by
  obtain ⟨s, locs, X, hx, rfl, rfl, hZ, hown, hnm, hr, hlk, eT, N, hn, hF⟩ := C; subst hp
  obtain ⟨cl, Ar, q1, Sz, q3, H, G⟩ := A
  rw [← len_of Sz q3] at K
  exact K.via fun t k => X.arraylength hx (by rw [eT]; exact Ar.1) (State.isArrayOf_alike hZ.alike Ar.2.1) (g := mkF m pc L (.ref a :: S)) rfl rfl hd t k
theorem Cx.callN (C : Cx p l e R m args below meth c Z y bytes ml ret n0 wd F T h cells slots) {a : Addr} {idx : Nat} {y' : MethodName} {bytes' : ByteArray} {ml' : Nat} {R' : Room} {Q' : Option Value → Heap → Prop} {argsL : List Value} (hin : y'.name = "<init>") (w1 : (Jvm.Cond.methodLink y.cls idx y').before a0 Z = true) (w2 : (Jvm.Cond.instanceMethod y').before a0 Z = true) (wz : (Jvm.Cond.initialized y'.cls).before a0 Z = true) (wc : (Jvm.Cond.code y' bytes' ml' none).before a0 Z = true)
    (hy : y'.cls ≠ "java/lang/invoke/MethodHandle" ∧ y'.cls ≠ "java/lang/invoke/VarHandle") (M : Ctr l Z y' bytes' ml' none R' (.ref a :: argsL).toArray h n0 Q') {ps : List FieldType} {rt : Option FieldType} (hpd : parseMethodDescriptor y'.desc = some ⟨ps, rt⟩) (hlen : argsL.length = ps.length) (W : Nat) (hf : R'.frames + 1 ≤ R.frames) (hl : W + (ml' + 11) + R'.locals ≤ R.locals) (hc : cells + R'.cells ≤ R.cells) (hs : slots + R'.slots ≤ R.slots) {rest : List Value} (hst : S = argsL.reverse ++ .ref a :: rest) (hsz : L.size = ml) (hW : (rest.map fun v => v.category).sum ≤ W) (hd : decode bytes pc = .ok (.invokespecial idx, 3)) (hp : pc + 3 = pc') (K : ∀ v T' h', Cx p l e R m args below meth c Z y bytes ml ret n0 wd F T' h' (cells + R'.cells) (slots + R'.slots) → Q' v h' → Go p e below F n0 Q T' (mkF m pc' L (v.toList ++ rest))) : Go p e below F n0 Q T (mkF m pc L S) := by
  obtain ⟨s, locs, X, hx, rfl, rfl, hZ, hown, hnm, hr, hlk, eT, N, hn, hF⟩ := C; subst hp
  obtain ⟨v, _, ⟨T', L', k', n'⟩, -, X', ⟨Lc, hQ, e1, e2, e3⟩, st⟩ := X.specialBack hx (y := y') hin hown (mvT hZ w1) (mvT hZ w2) (mvT hZ wc) hy (backOf (W := W) (Q := fun v h9 L => (Q' v h9 ∧ h.size ≤ h9.size) ∧ Fr n0 L) (M []) hZ wc wz hf hl) (g := mkF m pc L S) rfl hsz (Steps.refl _) (a := a) (argsL := argsL) (rest := rest) (lenOf hpd hlen) hst (by show 2 * 0 + _ ≤ _; omega) hd (fun _ _ => ⟨rfl, eT, hc, hs⟩)
  dsimp only [Pt.U, Pt.locs, Pt.cells, Pt.slots] at X' e1 e2 e3 st hQ
  subst e1 e2 e3
  exact (K v T' T'.heap ⟨s, _, X', hx, rfl, rfl, hZ, hown, hnm, hr, hlk, rfl, N.app hQ.2, hn, fun o t L q => hF o t L (Nat.le_trans hQ.1.2 q)⟩ hQ.1.1).via fun t k => st.trans k
theorem Cx.callV (C : Cx p l e R m args below meth c Z y bytes ml ret n0 wd F T h cells slots) {a : Addr} {idx : Nat} {y' : MethodName} {bytes' : ByteArray} {ml' : Nat} {ret' : Option FieldType} {R' : Room} {Q' : Option Value → Heap → Prop} {argsL : List Value} {Cl : String} (w1 : (Jvm.Cond.methodLink y.cls idx y').before a0 Z = true) (w2 : (Jvm.Cond.declares y').before a0 Z = true) (w3 : (Jvm.Cond.selects Cl y' y').before a0 Z = true) (w4 : (Jvm.Cond.instanceMethod y').before a0 Z = true) (wz : (Jvm.Cond.initialized y'.cls).before a0 Z = true) (wc : (Jvm.Cond.code y' bytes' ml' ret').before a0 Z = true) (E : Exa Z h a Cl)
    (hy : y'.cls ≠ "java/lang/invoke/MethodHandle" ∧ y'.cls ≠ "java/lang/invoke/VarHandle") (M : Ctr l Z y' bytes' ml' ret' R' (.ref a :: argsL).toArray h n0 Q') {ps : List FieldType} {rt : Option FieldType} (hpd : parseMethodDescriptor y'.desc = some ⟨ps, rt⟩) (hlen : argsL.length = ps.length) (W : Nat) (hf : R'.frames + 1 ≤ R.frames) (hl : W + (ml' + 11) + R'.locals ≤ R.locals) (hc : cells + R'.cells ≤ R.cells) (hs : slots + R'.slots ≤ R.slots) {rest : List Value} (hst : S = argsL.reverse ++ .ref a :: rest) (hsz : L.size = ml) (hW : (rest.map fun v => v.category).sum ≤ W) (hd : decode bytes pc = .ok (.invokevirtual idx, 3)) (hp : pc + 3 = pc') (K : ∀ v T' h', Cx p l e R m args below meth c Z y bytes ml ret n0 wd F T' h' (cells + R'.cells) (slots + R'.slots) → Q' v h' → Go p e below F n0 Q T' (mkF m pc' L (v.toList ++ rest))) : Go p e below F n0 Q T (mkF m pc L S) := by
  obtain ⟨s, locs, X, hx, rfl, rfl, hZ, hown, hnm, hr, hlk, eT, N, hn, hF⟩ := C; subst hp
  obtain ⟨cB, kB, qa, qb, qc⟩ := isOf hZ eT E
  obtain ⟨v, _, ⟨T', L', k', n'⟩, -, X', ⟨Lc, hQ, e1, e2, e3⟩, st⟩ := X.virtualBack hx (y := y') (z := y') hown (mvT hZ w1) (mvT hZ w2) (notFace_of_selects (args := #[]) (mvT hZ w3)) (mvT hZ w3) (mvT hZ w4) hy (backOf (W := W) (Q := fun v h9 L => (Q' v h9 ∧ h.size ≤ h9.size) ∧ Fr n0 L) (M []) hZ wc wz hf hl) qa qc (g := mkF m pc L S) rfl hsz (Steps.refl _) (argsL := argsL) (rest := rest) (lenOf hpd hlen) hst (by show 2 * 0 + _ ≤ _; omega) hd (fun _ _ => ⟨rfl, eT, hc, hs⟩)
  dsimp only [Pt.U, Pt.locs, Pt.cells, Pt.slots] at X' e1 e2 e3 st hQ
  subst e1 e2 e3
  exact (K v T' T'.heap ⟨s, _, X', hx, rfl, rfl, hZ, hown, hnm, hr, hlk, rfl, N.app hQ.2, hn, fun o t L q => hF o t L (Nat.le_trans hQ.1.2 q)⟩ hQ.1.1).via fun t k => st.trans k
def CtrW (l : Launch) (Z : State) (y : MethodName) (bytes : ByteArray) (ml : Nat) (ret : Option FieldType) (R : Room) (as' : Array Value) (h : Heap) (n0 : Nat) (Q : Option Value → Heap → Prop) : Prop :=
  ∀ ws : List Jvm.Cond, MetFree l y (head1 (Jvm.Cond.code y bytes ml ret :: ws) R) (fun a U => a = as' ∧ Z.Warmed39 U.vm ∧ U.heap = h) (fun _ _ _ _ _ => True) (fun _ U o U' => ∃ v L, o = .returned v ∧ (Q v U'.heap ∧ Fr n0 L) ∧ WideEnd U o U' L R.cells R.slots)
theorem CtrW.body {as' : Array Value} (hpl : plainFor y = true) (hn : n0 ≤ h.size) (ef : ∀ m, entryFrame m as' ml = mkF m 0 L [])
    (k : ∀ (p : Program) (e : Env) (F : Outcome → State → List Loc → Prop) (m : MethodId) (below : List Frame) (meth : Method) (c : Code) (T : State), Cx p l e R m as' below meth c Z y bytes ml ret n0 true F T h 0 0 → Go p e below F n0 Q T (mkF m 0 L [])) : CtrW l Z y bytes ml ret R as' h n0 Q := by
  intro ws
  refine MetFree.of_bodySF hpl hisR ?_
  intro p e s m args below meth c s₁ Bd hml0 hP hK
  obtain ⟨rfl, hZ, hh⟩ := hP
  obtain ⟨s₂, o, g1, g2, g3, v, L9, g4, ⟨g5, g6, -⟩, g7⟩ := k p e (fun o t L => WideEnd s o t L R.cells R.slots) m below meth c s₁ ⟨s, [], Stand.of_body Bd, Bd.exec, Bd.bytes, hml0, hZ, findClass_of_methodNamed Bd.named, (name_of_methodNamed Bd.named Bd.method).1, Bd.returns, Bd.notSynchronized, by rw [← hh, Bd.state]; rfl, Fr.nil n0, by rw [hh]; exact hn, fun _ _ _ _ q => q⟩
  rw [ef m]
  exact ⟨s₂, o, g1, g2, g3, v, L9, g4, ⟨g5, g6⟩, g7⟩
theorem Cx.ldcStr (C : Cx p l e R m args below meth c Z y bytes ml ret n0 true F T h cells slots) {idx : Nat} {text : String} (w : (Jvm.Cond.stringLink y.cls idx text).before a0 Z = true) (wS : ∀ a ∈ Bundle.stringAtoms, a.before a0 Z = true) (n : Nat) (hn9 : 4 * text.toList.length ≤ n) (hbig : n ≤ 536870912) (hc : cells + 2 ≤ R.cells) (hl : slots + (n + 4) ≤ R.slots) (hd : decode bytes pc = .ok (.ldc idx, 2)) (hp : pc + 2 = pc')
    (K : ∀ a T' h', Cx p l e R m args below meth c Z y bytes ml ret n0 true F T' h' (cells + 2) (slots + (n + 4)) → Ext h h' → Go p e below F n0 Q T' (mkF m pc' L (.ref a :: S))) : Go p e below F n0 Q T (mkF m pc L S) := by
  obtain ⟨s, locs, X, hx, rfl, rfl, hZ, hown, hnm, hr, hlk, eT, N, hn, hF⟩ := C; subst hp
  have X0 : Stand p l e R (s.setVm s.vm) m args below meth c T locs cells slots := X
  obtain ⟨a, T', h', k1, X', e', E, hS, hk, hZ', hown', st⟩ := ldcS (s := s) (vm0 := s.vm) X0 hx hZ hown w wS eT (State.WarmedH.since (State.WarmedH.refl s) h.size) (Nat.le_refl _) (g := mkF m pc L S) rfl hd hn9 hbig hc hl
  refine (K a T' h' ⟨s.setVm T'.vm, locs, X', hx, rfl, rfl, hZ', hown', hnm, hr, hlk, e', N, hn, fun o t L q z => ?_⟩ E).via st
  refine hF o t L (Nat.le_trans E.1 q) ?_
  obtain ⟨z1, z2, z3, z4⟩ := z
  have zz := hS.trans (⟨z2, z3⟩ : (s.setVm T'.vm).Since t.vm t.heap.size) (Nat.le_trans hk q)
  exact ⟨z1, zz.1, zz.2, z4.setVm s.vm⟩
theorem Cx.newrefs (C : Cx p l e R m args below meth c Z y bytes ml ret n0 wd F T h cells slots) {idx : Nat} {Cn ad : String} (w1 : (Jvm.Cond.classLink y.cls idx Cn).before a0 Z = true) (w2 : (Jvm.Cond.arrayOver (.object Cn)).before a0 Z = true) {n : Int32} (cap : Nat) (hn0 : ¬ n < 0) (hcap : n.toNatClampNeg ≤ cap) (hb : cap * 8 ≤ 536870912) (hc : cells + 1 ≤ R.cells) (hl : slots + cap ≤ R.slots) (had : "[" ++ (FieldType.object Cn).toString = ad) (hd : decode bytes pc = .ok (.anewarray idx, 3)) (hp : pc + 3 = pc')
    (K : ∀ T' h' b k, Cx p l e R m args below meth c Z y bytes ml ret n0 wd F T' h' (cells + 1) (slots + cap) → b = h.size → n0 ≤ b → Ext h h' → Arv Z h' b k (.object Cn) n (List.replicate cap .null) .null → Exa Z h' b ad → Ovr Z k Cn → Go p e below F n0 Q T' (mkF m pc' L (.ref b :: S))) : Go p e below F n0 Q T (mkF m pc L (.int n :: S)) := by
  have hz := C.size
  obtain ⟨s, locs, X, hx, rfl, rfl, hZ, hown, hnm, hr, hlk, eT, N, hn, hF⟩ := C; subst hp
  obtain ⟨T', h', cA, X', e', E, A, Ea, O, st⟩ := newRE X hx hZ hown w1 w2 eT (g := mkF m pc L (.int n :: S)) rfl hd rfl hn0 (cap := cap) hcap hb hc hl had
  exact (K T' h' h.size cA ⟨s, locs, X', hx, rfl, rfl, hZ, hown, hnm, hr, hlk, e', N, hn, fun o t L q => hF o t L (Nat.le_trans E.1 q)⟩ rfl hz E ((Arv.new A hn0).pad (pad_rep [] _ cap)) Ea O).via st
theorem Cx.aastore (C : Cx p l e R m args below meth c Z y bytes ml ret n0 wd F T h cells slots) {a b : Addr} {k : ClassId} {n j : Int32} {Cn : String} {vs : List Value} {dv : Value} (A : Arv Z h a k (.object Cn) n vs dv) (O : Ovr Z k Cn) (I : Ins Z h b Cn true) (hj : ¬ j < 0 ∧ j < n) (hlen : j.toNatClampNeg < vs.length) (g : n0 ≤ a) (hd : decode bytes pc = .ok (.aastore, 1)) (hp : pc + 1 = pc')
    (K : ∀ T' h', Cx p l e R m args below meth c Z y bytes ml ret n0 wd F T' h' cells slots → Wr h h' a j.toNatClampNeg (.ref b) → Arv Z h' a k (.object Cn) n (vs.set j.toNatClampNeg (.ref b)) dv → Go p e below F n0 Q T' (mkF m pc' L S)) : Go p e below F n0 Q T (mkF m pc L (.ref b :: .int j :: .ref a :: S)) := by
  obtain ⟨s, locs, X, hx, rfl, rfl, hZ, hown, hnm, hr, hlk, eT, N, hn, hF⟩ := C; subst hp
  obtain ⟨cl, Ar, q1, Sz, q3, H, G⟩ := A
  obtain ⟨T', h', X', e', W, st⟩ := stR X hx hZ eT Ar (j := j) (inb_of Sz hj) rfl (Sto.ofV Ar q1 O I) (g := mkF m pc L (.ref b :: .int j :: .ref a :: S)) rfl rfl hd
  exact (K T' h' ⟨s, _, X', hx, rfl, rfl, hZ, hown, hnm, hr, hlk, e', Fr.snoc X' N g, hn, fun o t L q => hF o t L (W.size ▸ q)⟩ W (Arv.set Ar q1 Sz q3 H G rfl W _ rfl hlen)).via st
theorem Cx.aaload (C : Cx p l e R m args below meth c Z y bytes ml ret n0 wd F T h cells slots) {a : Addr} {k : ClassId} {n j : Int32} {Cn : String} {v : Value} {vs : List Value} {dv : Value} (A : Arv Z h a k (.object Cn) n vs dv) (hj : ¬ j < 0 ∧ j < n) (hv : vs.getD j.toNatClampNeg dv = v) (hd : decode bytes pc = .ok (.aaload, 1)) (hp : pc + 1 = pc') (K : Go p e below F n0 Q T (mkF m pc' L (v :: S))) : Go p e below F n0 Q T (mkF m pc L (.int j :: .ref a :: S)) := by
  obtain ⟨s, locs, X, hx, rfl, rfl, hZ, hown, hnm, hr, hlk, eT, N, hn, hF⟩ := C; subst hp
  obtain ⟨cl, Ar, q1, Sz, q3, H, G⟩ := A
  exact K.via fun t k => X.aaload hx (j := j) (by rw [eT]; exact Ar.1) (State.isArrayOf_alike hZ.alike Ar.2.1) rfl Ar.2.2 (inb_of Sz hj) (H.at (inb_of Sz hj) hv) (g := mkF m pc L (.int j :: .ref a :: S)) rfl rfl hd t k
theorem Cx.clonearr (C : Cx p l e R m args below meth c Z y bytes ml ret n0 wd F T h cells slots) {idx : Nat} {ad : String} (w1 : (Jvm.Cond.methodLink y.cls idx ⟨ad, "clone", "()Ljava/lang/Object;"⟩).before a0 Z = true) (w2 : (Jvm.Cond.sameMethod ad "java/lang/Object" "clone" "()Ljava/lang/Object;").before a0 Z = true) (w3 : (Jvm.Cond.native ⟨"java/lang/Object", "clone", "()Ljava/lang/Object;"⟩).before a0 Z = true) (w4 : (Jvm.Cond.instanceMethod ⟨"java/lang/Object", "clone", "()Ljava/lang/Object;"⟩).before a0 Z = true) (w5 : (Jvm.Cond.selects ad ⟨ad, "clone", "()Ljava/lang/Object;"⟩ ⟨"java/lang/Object", "clone", "()Ljava/lang/Object;"⟩).before a0 Z = true) (w6 : (Jvm.Cond.castable ad "java/lang/Cloneable").before a0 Z = true)
    {a : Addr} {k : ClassId} {z : Int32} {ty : FieldType} {vs : List Value} {dv : Value} (A : Arv Z h a k ty z vs dv) (E : Exa Z h a ad) (hsz : L.size = ml) (hf : 1 ≤ R.frames) (W : Nat) (hW : (S.map fun v => v.category).sum ≤ W) (hlo : W + 14 ≤ R.locals) (cap : Nat) (hcap : z.toNatClampNeg ≤ cap) (hc : cells + 1 ≤ R.cells) (hl : slots + cap ≤ R.slots) (hd : decode bytes pc = .ok (.invokevirtual idx, 3)) (hp : pc + 3 = pc')
    (K : ∀ T' h' b, Cx p l e R m args below meth c Z y bytes ml ret n0 wd F T' h' (cells + 1) (slots + cap) → b = h.size → n0 ≤ b → Ext h h' → Arv Z h' b k ty z vs dv → Exa Z h' b ad → Go p e below F n0 Q T' (mkF m pc' L (.ref b :: S))) : Go p e below F n0 Q T (mkF m pc L (.ref a :: S)) := by
  have hz := C.size
  obtain ⟨s, locs, X, hx, rfl, rfl, hZ, hown, hnm, hr, hlk, eT, N, hn, hF⟩ := C; subst hp
  obtain ⟨cl, Ar, q1, Sz, q3, H, G⟩ := A
  have FC : FitC Z cl := fitC_of Ar fun i hi v hv => by rw [H i hi] at hv; cases hv; exact G i hi
  obtain ⟨T', h', X', e', Ex, A', E', st⟩ := cloneA X hx hZ hown w1 w2 w3 w4 w5 w6 eT Ar E FC (g := mkF m pc L (.ref a :: S)) rfl hsz rfl hd hf (W := W) (cap := cap) (by show 2 * 0 + _ ≤ _; omega) hlo (by rw [Sz]; exact hcap) hc hl
  exact (K T' h' h.size ⟨s, locs, X', hx, rfl, rfl, hZ, hown, hnm, hr, hlk, e', N, hn, fun o t L q => hF o t L (Nat.le_trans Ex.1 q)⟩ rfl hz Ex ⟨cloneOf cl, A', q1, Sz, q3, H, G⟩ E').via st
theorem Cx.castY (C : Cx p l e R m args below meth c Z y bytes ml ret n0 wd F T h cells slots) {idx : Nat} {Kn : String} {a : Addr} (w : (Jvm.Cond.classLink y.cls idx Kn).before a0 Z = true) (I : Ins Z h a Kn true) (hd : decode bytes pc = .ok (.checkcast idx, 3)) (hp : pc + 3 = pc') (K : ∀ T', Cx p l e R m args below meth c Z y bytes ml ret n0 wd F T' h cells slots → Go p e below F n0 Q T' (mkF m pc' L (.ref a :: S))) : Go p e below F n0 Q T (mkF m pc L (.ref a :: S)) := by
  obtain ⟨s, locs, X, hx, rfl, rfl, hZ, hown, hnm, hr, hlk, eT, N, hn, hF⟩ := C; subst hp
  obtain ⟨T', X', e', st⟩ := Jvm.RoadKit.castY X hx hZ hown w eT I (g := mkF m pc L (.ref a :: S)) rfl rfl hd
  exact (K T' ⟨s, locs, X', hx, rfl, rfl, hZ, hown, hnm, hr, hlk, e', N, hn, hF⟩).via st
end Layer
end Jvm.Ow
namespace Jvm.Pilot.@@N@@
open Jvm Jvm.ClassFile Sem Op Lib Jvm.Free Jvm.Stand Jvm.LawKit Jvm.RoadKit Bundle Jvm.Ow Jvm.Pilot.@@N@@.Jvm.D
theorem own_eqite {α : Type} {P : Prop} [Decidable P] {u a b : α} : (u = if P then a else b) ↔ ((P ∧ u = a) ∨ (¬ P ∧ u = b)) := by by_cases h : P <;> simp [h]
theorem own_iteeq {α : Type} {P : Prop} [Decidable P] {u a b : α} : ((if P then a else b) = u) ↔ ((P ∧ a = u) ∨ (¬ P ∧ b = u)) := by by_cases h : P <;> simp [h]
theorem own_nea {Z : State} {h : Heap} {a b : Addr} {C : String} {k : ClassId} {ty : FieldType} {n : Int32} {vs : List Value} {dv : Value} {a0 : Array Value} {kk : Nat} (E : Exa Z h a C) (wi : (Jvm.Cond.instantiable C kk).before a0 Z = true) (F : Arv Z h b k ty n vs dv) : a ≠ b := by
  obtain ⟨c, A, -⟩ := F; exact ne_arr E wi A
theorem own_fitr {v : Value} {t : FieldType} (h : v.isRef = true) (ht : t.isReference = true) : fits t v = true := by
  rcases ref_cases h with rfl | ⟨a, rfl⟩ <;> cases t <;> first | rfl | (simp [FieldType.isReference] at ht)
theorem own_plainE {Z : State} {h : Heap} {a : Addr} {C : String} (E : Exa Z h a C) : ∃ c : Cell, h[a]? = some c ∧ c.vm.isStatics = false := by
  obtain ⟨c, k, h1, -, -, h4, -⟩ := E; exact ⟨c, h1, h4⟩
theorem own_plainV {Z : State} {h : Heap} {a : Addr} {k : ClassId} {ty : FieldType} {n : Int32} {vs : List Value} {dv : Value} (F : Arv Z h a k ty n vs dv) : ∃ c : Cell, h[a]? = some c ∧ c.vm.isStatics = false := by
  obtain ⟨c, A, -⟩ := F; exact ⟨c, A.1, A.plain⟩
theorem own_stak {Z : State} {h h' : Heap} {C n d : String} {w : Value} {ws : List Addr} (F : Sta Z h C n d w) (K : Keep h h' ws) (q : ∀ x ∈ ws, ∃ c : Cell, h[x]? = some c ∧ c.vm.isStatics = false) : Sta Z h' C n d w := by
  obtain ⟨cf, i, k, f, st, cell, h1, h2, h3, h4, h5, h6, h7⟩ := F
  refine ⟨cf, i, k, f, st, cell, h1, h2, h3, h4, K.2.1 st cell h5 fun z => ?_, h6, h7⟩
  obtain ⟨c, e1, e2⟩ := q st z
  cases h5.symm.trans e1
  rw [h6] at e2; cases e2
theorem own_narb (x : Int32) : nar .byte x.toInt8.toInt32 = x.toInt8.toInt32 := by
  show x.toInt8.toInt32.toInt8.toInt32 = _; simp
theorem own_and11 : ((1 : Int32) &&& (1 : Int32)) = (1 : Int32) := by decide
theorem own_wS {Z : State} {a0 : Array Value} (hw : ∀ d ∈ tables_1, d.before a0 Z = true) : ∀ a ∈ Bundle.stringAtoms, a.before a0 Z = true := by
  intro a ha
  simp only [Bundle.stringAtoms, List.mem_cons, List.not_mem_nil, or_false] at ha
  rcases ha with rfl | rfl | rfl | rfl | rfl | rfl | rfl
  · exact (hw _ (List.mem_of_getElem? (i := 6) rfl))
  · exact (hw _ (List.mem_of_getElem? (i := 14) rfl))
  · exact (hw _ (List.mem_of_getElem? (i := 18) rfl))
  · exact (hw _ (List.mem_of_getElem? (i := 27) rfl))
  · exact (hw _ (List.mem_of_getElem? (i := 29) rfl))
  · exact (hw _ (List.mem_of_getElem? (i := 36) rfl))
  · exact (hw _ (List.mem_of_getElem? (i := 37) rfl))
theorem own_nz {t : Term} {cs : Int32} {args : Array Value} {s : State} (ev : t.eval args s none [] s = some (.int cs)) (h : (Cond.not (Cond.eq t (.int (0 : Int32)))).value args s none s [] = some true) : ¬ cs = (0 : Int32) := by
  intro e; subst e; simp [Cond.value, Term.eval, ev] at h
theorem own_c4 {v i : Int32} (h : v = (i &&& (3 : Int32))) : v = (0 : Int32) ∨ v = (1 : Int32) ∨ v = (2 : Int32) ∨ v = (3 : Int32) := by
  have m := c_mask i 3 2 (by decide) (by decide)
  rw [← h] at m
  simp only [← Int32.toInt_inj, Int32.reduceToInt]; omega
theorem own_rf {l : List Value} (h : ∀ x ∈ l, x.isRef = true) : ∀ j, (l.getD j .null).isRef = true := by
  intro j; rw [List.getD_eq_getElem?_getD]
  cases q : l[j]? with
  | none => rfl
  | some x => exact h x (List.mem_of_getElem? q)

theorem pn10 : plainName "java/util/AbstractCollection" = true := by first | (simp [plainName, overriddenIn]; done) | decide +kernel
theorem pd10 : parseMethodDescriptor "()V" = some ⟨[], none⟩ := by decide +kernel
theorem ef10 (m : MethodId) (o0 : Addr) : entryFrame m #[(.ref o0)] 1 = mkF m 0 #[.val (.ref o0)] [] := by first | (simp [entryFrame, mkF, argsToLocals, Value.category]; done) | rfl
theorem d10_0 : decode jdk_22_method_1_code 0 = .ok (.aload_n 0, 1) := by decide +kernel
theorem d10_1 : decode jdk_22_method_1_code 1 = .ok (.invokespecial 1, 3) := by decide +kernel
theorem d10_4 : decode jdk_22_method_1_code 4 = .ok (.return_, 1) := by decide +kernel
set_option maxRecDepth 65536 in
set_option maxHeartbeats 40000000 in
theorem rm10 (l : Launch) (Z : State) (a0 : Array Value) (hw : ∀ d ∈ tables_1, d.before a0 Z = true) (o0 : Addr) (h0 : Heap) (n0 : Nat) (Z0 : n0 ≤ h0.size) :
    Ctr l Z (⟨"java/util/AbstractCollection", "<init>", "()V"⟩ : MethodName) jdk_22_method_1_code 1 none ({ frames := 1, cells := 0, slots := 0, locals := 12 } : Room) #[(.ref o0)] h0 n0 (fun v h' => v = none ∧ h' = h0) := by
  refine Ctr.body (L := #[.val (.ref o0)]) (plainFor_of_name pn10) Z0 (fun m => ef10 m o0) ?_
  intro p e F m below meth c T0 C0
  refine C0.aloadN d10_0 rfl rfl rfl ?_
  refine C0.initObj (hw _ (List.mem_of_getElem? (i := 61) rfl)) (hw _ (List.mem_of_getElem? (i := 24) rfl)) (hw _ (List.mem_of_getElem? (i := 25) rfl)) rfl (by decide) 0 (Nat.le_of_eq rfl) (by decide) d10_1 rfl (fun T1 C1 => ?_)
  exact C1.retV d10_4 rfl (by decide) (by decide) ⟨rfl, rfl⟩
theorem pn9 : plainName "java/util/AbstractList" = true := by first | (simp [plainName, overriddenIn]; done) | decide +kernel
theorem pd9 : parseMethodDescriptor "()V" = some ⟨[], none⟩ := by decide +kernel
theorem ef9 (m : MethodId) (o0 : Addr) : entryFrame m #[(.ref o0)] 1 = mkF m 0 #[.val (.ref o0)] [] := by first | (simp [entryFrame, mkF, argsToLocals, Value.category]; done) | rfl
theorem d9_0 : decode jdk_39_method_1_code 0 = .ok (.aload_n 0, 1) := by decide +kernel
theorem d9_1 : decode jdk_39_method_1_code 1 = .ok (.invokespecial 1, 3) := by decide +kernel
theorem d9_4 : decode jdk_39_method_1_code 4 = .ok (.aload_n 0, 1) := by decide +kernel
theorem d9_5 : decode jdk_39_method_1_code 5 = .ok (.iconst 0, 1) := by decide +kernel
theorem d9_6 : decode jdk_39_method_1_code 6 = .ok (.putfield 7, 3) := by decide +kernel
theorem d9_9 : decode jdk_39_method_1_code 9 = .ok (.return_, 1) := by decide +kernel
set_option maxRecDepth 65536 in
set_option maxHeartbeats 40000000 in
theorem rm9 (l : Launch) (Z : State) (a0 : Array Value) (hw : ∀ d ∈ tables_1, d.before a0 Z = true) (o0 : Addr) (x0 : Value) (x1 : Value) (h0 : Heap) (n0 : Nat) (Z0 : n0 ≤ h0.size) (E_o0 : Exa Z h0 o0 "java/util/ArrayList") (F_o0_modCount : Fld Z h0 o0 "java/util/AbstractList" "modCount" "I" x0) (F_o0_elementData : Fld Z h0 o0 "java/util/ArrayList" "elementData" "[Ljava/lang/Object;" x1) (g_o0 : n0 ≤ o0) :
    Ctr l Z (⟨"java/util/AbstractList", "<init>", "()V"⟩ : MethodName) jdk_39_method_1_code 1 none ({ frames := 2, cells := 0, slots := 0, locals := 24 } : Room) #[(.ref o0)] h0 n0 (fun v h' => v = none ∧ Keep h0 h' [o0] ∧ Exa Z h' o0 "java/util/ArrayList" ∧ Fld Z h' o0 "java/util/AbstractList" "modCount" "I" (.int (0 : Int32)) ∧ Fld Z h' o0 "java/util/ArrayList" "elementData" "[Ljava/lang/Object;" x1) := by
  refine Ctr.body (L := #[.val (.ref o0)]) (plainFor_of_name pn9) Z0 (fun m => ef9 m o0) ?_
  intro p e F m below meth c T0 C0
  have KP : Keep h0 h0 [o0] := Keep.refl h0 _
  refine C0.aloadN d9_0 rfl rfl rfl ?_
  refine C0.callN rfl (hw _ (List.mem_of_getElem? (i := 55) rfl)) (hw _ (List.mem_of_getElem? (i := 56) rfl)) (hw _ (List.mem_of_getElem? (i := 59) rfl)) (hw _ (List.mem_of_getElem? (i := 60) rfl)) (by decide) (a := o0) (rm10 l Z a0 hw o0 h0 n0 C0.size ) (argsL := []) pd10 rfl 0 (by decide) (by decide) (by decide) (by decide) (rest := []) rfl rfl (Nat.le_of_eq rfl) d9_1 rfl (fun v1 T1 h1 C1 qq1 => ?_)
  obtain ⟨rfl, hh1⟩ := qq1
  have hh1 := hh1.symm; subst hh1
  show Go p e below F n0 (fun v h' => v = none ∧ Keep h0 h' [o0] ∧ Exa Z h' o0 "java/util/ArrayList" ∧ Fld Z h' o0 "java/util/AbstractList" "modCount" "I" (.int (0 : Int32)) ∧ Fld Z h' o0 "java/util/ArrayList" "elementData" "[Ljava/lang/Object;" x1) T1 (mkF m 4 #[.val (.ref o0)] [])
  refine C1.aloadN d9_4 rfl rfl rfl ?_
  refine C1.iconst (0 : Int32) d9_5 rfl rfl ?_
  refine C1.putF (host := "") (Or.inl (hw _ (List.mem_of_getElem? (i := 62) rfl))) Via.refl F_o0_modCount E_o0 (Or.inl (hw _ (List.mem_of_getElem? (i := 63) rfl))) (hw _ (List.mem_of_getElem? (i := 44) rfl)) (ty := .int) (by decide) rfl rfl g_o0 d9_6 rfl (fun T2 h2 C2 W2 => ?_)
  have E_o0 := E_o0.wr W2
  have F_o0_elementData := F_o0_elementData.other W2 (Or.inr (slot_ne (Or.inl (hw _ (List.mem_of_getElem? (i := 66) rfl))) (Or.inl (hw _ (List.mem_of_getElem? (i := 63) rfl))) (by decide) (t := (.array (.object "java/lang/Object"))) (t' := .int) (by decide) (by decide)))
  have KP := KP.wr W2 (Or.inl (by simp))
  have F_o0_modCount := F_o0_modCount.same W2
  exact C2.retV d9_9 rfl (by decide) (by decide) ⟨rfl, KP, E_o0, F_o0_modCount, F_o0_elementData⟩
theorem pn8 : plainName "java/util/ArrayList" = true := by first | (simp [plainName, overriddenIn]; done) | decide +kernel
theorem pd8 : parseMethodDescriptor "()V" = some ⟨[], none⟩ := by decide +kernel
theorem ef8 (m : MethodId) (o0 : Addr) : entryFrame m #[(.ref o0)] 1 = mkF m 0 #[.val (.ref o0)] [] := by first | (simp [entryFrame, mkF, argsToLocals, Value.category]; done) | rfl
theorem d8_0 : decode jdk_38_method_2_code 0 = .ok (.aload_n 0, 1) := by decide +kernel
theorem d8_1 : decode jdk_38_method_2_code 1 = .ok (.invokespecial 1, 3) := by decide +kernel
theorem d8_4 : decode jdk_38_method_2_code 4 = .ok (.aload_n 0, 1) := by decide +kernel
theorem d8_5 : decode jdk_38_method_2_code 5 = .ok (.getstatic 39, 3) := by decide +kernel
theorem d8_8 : decode jdk_38_method_2_code 8 = .ok (.putfield 9, 3) := by decide +kernel
theorem d8_11 : decode jdk_38_method_2_code 11 = .ok (.return_, 1) := by decide +kernel
set_option maxRecDepth 65536 in
set_option maxHeartbeats 40000000 in
theorem rm8 (l : Launch) (Z : State) (a0 : Array Value) (hw : ∀ d ∈ tables_1, d.before a0 Z = true) (o0 : Addr) (de : Addr) (x0 : Value) (x1 : Value) (h0 : Heap) (n0 : Nat) (Z0 : n0 ≤ h0.size) (E_o0 : Exa Z h0 o0 "java/util/ArrayList") (F_o0_modCount : Fld Z h0 o0 "java/util/AbstractList" "modCount" "I" x0) (F_o0_elementData : Fld Z h0 o0 "java/util/ArrayList" "elementData" "[Ljava/lang/Object;" x1) (g_o0 : n0 ≤ o0) (S_DEFAULTCAPACITY_EMPTY_ELEMENTDATA : Sta Z h0 "java/util/ArrayList" "DEFAULTCAPACITY_EMPTY_ELEMENTDATA" "[Ljava/lang/Object;" (.ref de)) :
    Ctr l Z (⟨"java/util/ArrayList", "<init>", "()V"⟩ : MethodName) jdk_38_method_2_code 1 none ({ frames := 3, cells := 0, slots := 0, locals := 36 } : Room) #[(.ref o0)] h0 n0 (fun v h' => v = none ∧ Keep h0 h' [o0] ∧ Exa Z h' o0 "java/util/ArrayList") := by
  refine Ctr.body (L := #[.val (.ref o0)]) (plainFor_of_name pn8) Z0 (fun m => ef8 m o0) ?_
  intro p e F m below meth c T0 C0
  have KP : Keep h0 h0 [o0] := Keep.refl h0 _
  refine C0.aloadN d8_0 rfl rfl rfl ?_
  refine C0.callN rfl (hw _ (List.mem_of_getElem? (i := 49) rfl)) (hw _ (List.mem_of_getElem? (i := 50) rfl)) (hw _ (List.mem_of_getElem? (i := 53) rfl)) (hw _ (List.mem_of_getElem? (i := 54) rfl)) (by decide) (a := o0) (rm9 l Z a0 hw o0 x0 x1 h0 n0 C0.size E_o0 F_o0_modCount F_o0_elementData g_o0) (argsL := []) pd9 rfl 0 (by decide) (by decide) (by decide) (by decide) (rest := []) rfl rfl (Nat.le_of_eq rfl) d8_1 rfl (fun v1 T1 h1 C1 qq1 => ?_)
  obtain ⟨rfl, K1, p1_0, p1_1, p1_2⟩ := qq1
  have S_DEFAULTCAPACITY_EMPTY_ELEMENTDATA := own_stak S_DEFAULTCAPACITY_EMPTY_ELEMENTDATA K1 (allS (own_plainE E_o0) (all0))
  have E_o0 := E_o0.keep K1
  have KP := KP.trans K1 (allS (Or.inl (by simp)) (all0))
  have E_o0 := p1_0
  have F_o0_modCount := p1_1
  have F_o0_elementData := p1_2
  show Go p e below F n0 (fun v h' => v = none ∧ Keep h0 h' [o0] ∧ Exa Z h' o0 "java/util/ArrayList") T1 (mkF m 4 #[.val (.ref o0)] [])
  refine C1.aloadN d8_4 rfl rfl rfl ?_
  refine C1.getS (host := "") (Or.inl (hw _ (List.mem_of_getElem? (i := 64) rfl))) Via.refl S_DEFAULTCAPACITY_EMPTY_ELEMENTDATA d8_5 rfl (fun T2 C2 => ?_)
  refine C2.putF (host := "") (Or.inl (hw _ (List.mem_of_getElem? (i := 65) rfl))) Via.refl F_o0_elementData E_o0 (Or.inl (hw _ (List.mem_of_getElem? (i := 66) rfl))) (hw _ (List.mem_of_getElem? (i := 44) rfl)) (ty := (.array (.object "java/lang/Object"))) (by decide) rfl rfl g_o0 d8_8 rfl (fun T3 h3 C3 W3 => ?_)
  have E_o0 := E_o0.wr W3
  have S_DEFAULTCAPACITY_EMPTY_ELEMENTDATA := S_DEFAULTCAPACITY_EMPTY_ELEMENTDATA.wr W3
  have F_o0_modCount := F_o0_modCount.other W3 (Or.inr (slot_ne (Or.inl (hw _ (List.mem_of_getElem? (i := 63) rfl))) (Or.inl (hw _ (List.mem_of_getElem? (i := 66) rfl))) (by decide) (t := .int) (t' := (.array (.object "java/lang/Object"))) (by decide) (by decide)))
  have KP := KP.wr W3 (Or.inl (by simp))
  have F_o0_elementData := F_o0_elementData.same W3
  exact C3.retV d8_11 rfl (by decide) (by decide) ⟨rfl, KP, E_o0⟩
def f3 (i0 : Int32) : Int32 := if (255 : Int32) < i0 then (0 : Int32) else ((1 : Int32))
theorem pn3 : plainName "java/lang/StringLatin1" = true := by first | (simp [plainName, overriddenIn]; done) | decide +kernel
theorem pd3 : parseMethodDescriptor "(C)Z" = some ⟨[.char], some .boolean⟩ := by decide +kernel
theorem ef3 (m : MethodId) (i0 : Int32) : entryFrame m #[(.int i0)] 1 = mkF m 0 #[.val (.int i0)] [] := by first | (simp [entryFrame, mkF, argsToLocals, Value.category]; done) | rfl
theorem d3_0 : decode jdk_43_method_3_code 0 = .ok (.iload_n 0, 1) := by decide +kernel
theorem d3_1 : decode jdk_43_method_3_code 1 = .ok (.sipush 255, 3) := by decide +kernel
theorem d3_4 : decode jdk_43_method_3_code 4 = .ok (.if_icmp .gt 7, 3) := by decide +kernel
theorem d3_7 : decode jdk_43_method_3_code 7 = .ok (.iconst 1, 1) := by decide +kernel
theorem d3_8 : decode jdk_43_method_3_code 8 = .ok (.goto 4, 3) := by decide +kernel
theorem d3_11 : decode jdk_43_method_3_code 11 = .ok (.iconst 0, 1) := by decide +kernel
theorem d3_12 : decode jdk_43_method_3_code 12 = .ok (.ireturn, 1) := by decide +kernel
set_option maxRecDepth 65536 in
set_option maxHeartbeats 40000000 in
theorem rm3 (l : Launch) (Z : State) (a0 : Array Value) (hw : ∀ d ∈ tables_1, d.before a0 Z = true) (i0 : Int32) (h0 : Heap) (n0 : Nat) (Z0 : n0 ≤ h0.size) :
    Ctr l Z (⟨"java/lang/StringLatin1", "canEncode", "(C)Z"⟩ : MethodName) jdk_43_method_3_code 1 (some .boolean) ({ frames := 0, cells := 0, slots := 0, locals := 0 } : Room) #[(.int i0)] h0 n0 (fun v h' => v = some (.int (f3 i0)) ∧ h' = h0) := by
  refine Ctr.body (L := #[.val (.int i0)]) (plainFor_of_name pn3) Z0 (fun m => ef3 m i0) ?_
  intro p e F m below meth c T0 C0
  refine C0.iloadN d3_0 rfl rfl ?_
  refine C0.sipush (255 : Int32) d3_1 rfl rfl ?_
  refine C0.icmp_gt d3_4 (by decide) (by decide : _ = 11) rfl (fun c4 => ?_) (fun c4 => ?_)
  · refine C0.iconst (0 : Int32) d3_11 rfl rfl ?_
    exact C0.retN (t := .boolean) d3_12 rfl (by simp) (by decide) (by decide) (w := (0 : Int32)) rfl ⟨by rw [f3, if_pos c4], rfl⟩
  · refine C0.iconst (1 : Int32) d3_7 rfl rfl ?_
    refine C0.goto d3_8 (by decide) (by decide : _ = 12) ?_
    exact C0.retN (t := .boolean) d3_12 rfl (by simp) (by decide) (by decide) (w := (1 : Int32)) rfl ⟨by rw [f3, if_neg c4], rfl⟩
theorem pn4 : plainName "java/lang/StringLatin1" = true := by first | (simp [plainName, overriddenIn]; done) | decide +kernel
theorem pd4 : parseMethodDescriptor "(C)[B" = some ⟨[.char], some (.array .byte)⟩ := by decide +kernel
theorem ef4 (m : MethodId) (i0 : Int32) : entryFrame m #[(.int i0)] 1 = mkF m 0 #[.val (.int i0)] [] := by first | (simp [entryFrame, mkF, argsToLocals, Value.category]; done) | rfl
theorem d4_0 : decode jdk_43_method_46_code 0 = .ok (.iconst 1, 1) := by decide +kernel
theorem d4_1 : decode jdk_43_method_46_code 1 = .ok (.newarray .byte, 2) := by decide +kernel
theorem d4_3 : decode jdk_43_method_46_code 3 = .ok (.dup, 1) := by decide +kernel
theorem d4_4 : decode jdk_43_method_46_code 4 = .ok (.iconst 0, 1) := by decide +kernel
theorem d4_5 : decode jdk_43_method_46_code 5 = .ok (.iload_n 0, 1) := by decide +kernel
theorem d4_6 : decode jdk_43_method_46_code 6 = .ok (.i2b, 1) := by decide +kernel
theorem d4_7 : decode jdk_43_method_46_code 7 = .ok (.bastore, 1) := by decide +kernel
theorem d4_8 : decode jdk_43_method_46_code 8 = .ok (.areturn, 1) := by decide +kernel
set_option maxRecDepth 65536 in
set_option maxHeartbeats 40000000 in
theorem rm4 (l : Launch) (Z : State) (a0 : Array Value) (hw : ∀ d ∈ tables_1, d.before a0 Z = true) (i0 : Int32) (h0 : Heap) (n0 : Nat) (Z0 : n0 ≤ h0.size) :
    Ctr l Z (⟨"java/lang/StringLatin1", "toBytes", "(C)[B"⟩ : MethodName) jdk_43_method_46_code 1 (some (.array .byte)) ({ frames := 0, cells := 1, slots := 1, locals := 0 } : Room) #[(.int i0)] h0 n0 (fun v h' => ∃ bo : Addr, v = some (.ref bo) ∧ Keep h0 h' []) := by
  refine Ctr.body (L := #[.val (.int i0)]) (plainFor_of_name pn4) Z0 (fun m => ef4 m i0) ?_
  intro p e F m below meth c T0 C0
  have KP : Keep h0 h0 [] := Keep.refl h0 _
  refine C0.iconst (1 : Int32) d4_0 rfl rfl ?_
  refine C0.newarr (hw _ (List.mem_of_getElem? (i := 18) rfl)) 1 (by decide) (by decide) (by decide) (by decide) (by decide) d4_1 rfl (fun T1 h1 b1 k1 C1 e1 g_b1 E1 V_b1 => ?_)
  have sz_b1 : h0.size ≤ b1 := Nat.le_trans KP.1 (Nat.le_of_eq e1.symm)
  have KP := KP.ext E1
  have V_b1 : Arv Z h1 b1 k1 .byte (1 : Int32) [(.int (0 : Int32))] (.int (0 : Int32)) := V_b1
  refine C1.dup d4_3 rfl rfl ?_
  refine C1.iconst (0 : Int32) d4_4 rfl rfl ?_
  refine C1.iloadN d4_5 rfl rfl ?_
  refine C1.i2b d4_6 rfl ?_
  refine C1.bastore V_b1 ⟨by decide, by decide⟩ (Nat.le_of_ble_eq_true rfl) g_b1 d4_7 rfl (fun T2 h2 C2 W2 Vn2 => ?_)
  have KP := KP.wr W2 (Or.inr sz_b1)
  have V_b1 : Arv Z h2 b1 k1 .byte (1 : Int32) [(.int (nar .byte (i0.toInt8.toInt32)))] (.int (0 : Int32)) := Vn2
  exact C2.retA d4_8 rfl rfl rfl (by decide) (by decide) ⟨b1, rfl, KP⟩
theorem pn5 : plainName "java/lang/String" = true := by first | (simp [plainName, overriddenIn]; done) | decide +kernel
theorem pd5 : parseMethodDescriptor "([BB)V" = some ⟨[(.array .byte), .byte], none⟩ := by decide +kernel
theorem ef5 (m : MethodId) (o0 : Addr) (o1 : Addr) (i2 : Int32) : entryFrame m #[(.ref o0), (.ref o1), (.int i2)] 3 = mkF m 0 #[.val (.ref o0), .val (.ref o1), .val (.int i2)] [] := by first | (simp [entryFrame, mkF, argsToLocals, Value.category]; done) | rfl
theorem d5_0 : decode jdk_42_method_151_code 0 = .ok (.aload_n 0, 1) := by decide +kernel
theorem d5_1 : decode jdk_42_method_151_code 1 = .ok (.invokespecial 1, 3) := by decide +kernel
theorem d5_4 : decode jdk_42_method_151_code 4 = .ok (.aload_n 0, 1) := by decide +kernel
theorem d5_5 : decode jdk_42_method_151_code 5 = .ok (.aload_n 1, 1) := by decide +kernel
theorem d5_6 : decode jdk_42_method_151_code 6 = .ok (.putfield 9, 3) := by decide +kernel
theorem d5_9 : decode jdk_42_method_151_code 9 = .ok (.aload_n 0, 1) := by decide +kernel
theorem d5_10 : decode jdk_42_method_151_code 10 = .ok (.iload_n 2, 1) := by decide +kernel
theorem d5_11 : decode jdk_42_method_151_code 11 = .ok (.putfield 15, 3) := by decide +kernel
theorem d5_14 : decode jdk_42_method_151_code 14 = .ok (.return_, 1) := by decide +kernel
set_option maxRecDepth 65536 in
set_option maxHeartbeats 40000000 in
theorem rm5 (l : Launch) (Z : State) (a0 : Array Value) (hw : ∀ d ∈ tables_1, d.before a0 Z = true) (o0 : Addr) (o1 : Addr) (i2 : Int32) (x0 : Value) (x1 : Value) (h0 : Heap) (n0 : Nat) (Z0 : n0 ≤ h0.size) (E_o0 : Exa Z h0 o0 "java/lang/String") (F_o0_value : Fld Z h0 o0 "java/lang/String" "value" "[B" x0) (F_o0_coder : Fld Z h0 o0 "java/lang/String" "coder" "B" x1) (g_o0 : n0 ≤ o0) :
    Ctr l Z (⟨"java/lang/String", "<init>", "([BB)V"⟩ : MethodName) jdk_42_method_151_code 3 none ({ frames := 1, cells := 0, slots := 0, locals := 12 } : Room) #[(.ref o0), (.ref o1), (.int i2)] h0 n0 (fun v h' => v = none ∧ Keep h0 h' [o0] ∧ Exa Z h' o0 "java/lang/String") := by
  refine Ctr.body (L := #[.val (.ref o0), .val (.ref o1), .val (.int i2)]) (plainFor_of_name pn5) Z0 (fun m => ef5 m o0 o1 i2) ?_
  intro p e F m below meth c T0 C0
  have KP : Keep h0 h0 [o0] := Keep.refl h0 _
  refine C0.aloadN d5_0 rfl rfl rfl ?_
  refine C0.initObj (hw _ (List.mem_of_getElem? (i := 23) rfl)) (hw _ (List.mem_of_getElem? (i := 24) rfl)) (hw _ (List.mem_of_getElem? (i := 25) rfl)) rfl (by decide) 0 (Nat.le_of_eq rfl) (by decide) d5_1 rfl (fun T1 C1 => ?_)
  refine C1.aloadN d5_4 rfl rfl rfl ?_
  refine C1.aloadN d5_5 rfl rfl rfl ?_
  refine C1.putF (host := "") (Or.inl (hw _ (List.mem_of_getElem? (i := 26) rfl))) Via.refl F_o0_value E_o0 (Or.inr ⟨(hw _ (List.mem_of_getElem? (i := 27) rfl)), rfl, rfl⟩) (hw _ (List.mem_of_getElem? (i := 14) rfl)) (ty := (.array .byte)) (by decide) rfl rfl g_o0 d5_6 rfl (fun T2 h2 C2 W2 => ?_)
  have E_o0 := E_o0.wr W2
  have F_o0_coder := F_o0_coder.other W2 (Or.inr (slot_ne (Or.inr (hw _ (List.mem_of_getElem? (i := 29) rfl))) (Or.inr (hw _ (List.mem_of_getElem? (i := 27) rfl))) (by decide) (t := .byte) (t' := (.array .byte)) (by decide) (by decide)))
  have KP := KP.wr W2 (Or.inl (by simp))
  have F_o0_value := F_o0_value.same W2
  refine C2.aloadN d5_9 rfl rfl rfl ?_
  refine C2.iloadN d5_10 rfl rfl ?_
  refine C2.putFN (v' := (.int (nar .byte i2))) (hw _ (List.mem_of_getElem? (i := 28) rfl)) Via.refl F_o0_coder E_o0 (Or.inr ⟨(hw _ (List.mem_of_getElem? (i := 29) rfl)), rfl, rfl⟩) (hw _ (List.mem_of_getElem? (i := 14) rfl)) (ty := .byte) (by decide) rfl (fits_nar_byte _) g_o0 d5_11 rfl (fun T3 h3 C3 W3 => ?_)
  have E_o0 := E_o0.wr W3
  have F_o0_value := F_o0_value.other W3 (Or.inr (slot_ne (Or.inr (hw _ (List.mem_of_getElem? (i := 27) rfl))) (Or.inr (hw _ (List.mem_of_getElem? (i := 29) rfl))) (by decide) (t := (.array .byte)) (t' := .byte) (by decide) (by decide)))
  have KP := KP.wr W3 (Or.inl (by simp))
  have F_o0_coder := F_o0_coder.same W3
  exact C3.retV d5_14 rfl (by decide) (by decide) ⟨rfl, KP, E_o0⟩
theorem pn2 : plainName "java/lang/String" = true := by first | (simp [plainName, overriddenIn]; done) | decide +kernel
theorem pd2 : parseMethodDescriptor "(C)Ljava/lang/String;" = some ⟨[.char], some (.object "java/lang/String")⟩ := by decide +kernel
theorem ef2 (m : MethodId) (i0 : Int32) : entryFrame m #[(.int i0)] 1 = mkF m 0 #[.val (.int i0)] [] := by first | (simp [entryFrame, mkF, argsToLocals, Value.category]; done) | rfl
theorem d2_0 : decode jdk_42_method_139_code 0 = .ok (.getstatic 38, 3) := by decide +kernel
theorem d2_3 : decode jdk_42_method_139_code 3 = .ok (.ifCond .eq 23, 3) := by decide +kernel
theorem d2_6 : decode jdk_42_method_139_code 6 = .ok (.iload_n 0, 1) := by decide +kernel
theorem d2_7 : decode jdk_42_method_139_code 7 = .ok (.invokestatic 1015, 3) := by decide +kernel
theorem d2_10 : decode jdk_42_method_139_code 10 = .ok (.ifCond .eq 16, 3) := by decide +kernel
theorem d2_13 : decode jdk_42_method_139_code 13 = .ok (.new 10, 3) := by decide +kernel
theorem d2_16 : decode jdk_42_method_139_code 16 = .ok (.dup, 1) := by decide +kernel
theorem d2_17 : decode jdk_42_method_139_code 17 = .ok (.iload_n 0, 1) := by decide +kernel
theorem d2_18 : decode jdk_42_method_139_code 18 = .ok (.invokestatic 1018, 3) := by decide +kernel
theorem d2_21 : decode jdk_42_method_139_code 21 = .ok (.iconst 0, 1) := by decide +kernel
theorem d2_22 : decode jdk_42_method_139_code 22 = .ok (.invokespecial 209, 3) := by decide +kernel
theorem d2_25 : decode jdk_42_method_139_code 25 = .ok (.areturn, 1) := by decide +kernel
set_option maxRecDepth 65536 in
set_option maxHeartbeats 40000000 in
theorem rm2 (l : Launch) (Z : State) (a0 : Array Value) (hw : ∀ d ∈ tables_1, d.before a0 Z = true) (i0 : Int32) (cs : Int32) (h0 : Heap) (n0 : Nat) (Z0 : n0 ≤ h0.size) (S_COMPACT_STRINGS : Sta Z h0 "java/lang/String" "COMPACT_STRINGS" "Z" (.int cs)) (hcs : ¬ cs = (0 : Int32)) (hc : ¬ (255 : Int32) < i0) :
    Ctr l Z (⟨"java/lang/String", "valueOf", "(C)Ljava/lang/String;"⟩ : MethodName) jdk_42_method_139_code 1 (some (.object "java/lang/String")) ({ frames := 2, cells := 2, slots := 5, locals := 27 } : Room) #[(.int i0)] h0 n0 (fun v h' => ∃ bs : Addr, v = some (.ref bs) ∧ Keep h0 h' [] ∧ Exa Z h' bs "java/lang/String" ∧ n0 ≤ bs) := by
  refine Ctr.body (L := #[.val (.int i0)]) (plainFor_of_name pn2) Z0 (fun m => ef2 m i0) ?_
  intro p e F m below meth c T0 C0
  have KP : Keep h0 h0 [] := Keep.refl h0 _
  refine C0.getS (host := "") (Or.inl (hw _ (List.mem_of_getElem? (i := 8) rfl))) Via.refl S_COMPACT_STRINGS d2_0 rfl (fun T1 C1 => ?_)
  refine C1.if_eq d2_3 (by decide) (by decide : _ = 26) rfl (fun q => absurd q hcs) (fun _ => ?_)
  refine C1.iloadN d2_6 rfl rfl ?_
  refine C1.callS (hw _ (List.mem_of_getElem? (i := 9) rfl)) (hw _ (List.mem_of_getElem? (i := 10) rfl)) (hw _ (List.mem_of_getElem? (i := 11) rfl)) (hw _ (List.mem_of_getElem? (i := 12) rfl)) (by decide) (rm3 l Z a0 hw i0 h0 n0 C1.size ) (argsL := [(.int i0)]) pd3 rfl 0 (by decide) (by decide) (by decide) (by decide) (rest := []) rfl rfl (Nat.le_of_eq rfl) d2_7 rfl (fun v2 T2 h2 C2 qq2 => ?_)
  obtain ⟨rfl, hh2⟩ := qq2
  have hh2 := hh2.symm; subst hh2
  show Go p e below F n0 (fun v h' => ∃ bs : Addr, v = some (.ref bs) ∧ Keep h0 h' [] ∧ Exa Z h' bs "java/lang/String" ∧ n0 ≤ bs) T2 (mkF m 10 #[.val (.int i0)] [(.int (f3 i0))])
  refine C2.if_eq d2_10 (by decide) (by decide : _ = 26) rfl (fun q => absurd q (by rw [f3, if_neg hc]; decide)) (fun _ => ?_)
  refine C2.new (hw _ (List.mem_of_getElem? (i := 13) rfl)) (hw _ (List.mem_of_getElem? (i := 14) rfl)) (hw _ (List.mem_of_getElem? (i := 6) rfl)) d2_13 rfl (by decide) (by decide) (fun T3 h3 b3 C3 e3 g_b3 E3 E_b3 D3 => ?_)
  have sz_b3 : h0.size ≤ b3 := Nat.le_trans KP.1 (Nat.le_of_eq e3.symm)
  have S_COMPACT_STRINGS := S_COMPACT_STRINGS.ext E3
  have KP := KP.ext E3
  have F_b3_value : Fld Z h3 b3 "java/lang/String" "value" "[B" .null := D3 (Or.inr (hw _ (List.mem_of_getElem? (i := 27) rfl))) (ty := (.array .byte)) (by decide)
  have F_b3_coder : Fld Z h3 b3 "java/lang/String" "coder" "B" (.int (0 : Int32)) := D3 (Or.inr (hw _ (List.mem_of_getElem? (i := 29) rfl))) (ty := .byte) (by decide)
  refine C3.dup d2_16 rfl rfl ?_
  refine C3.iloadN d2_17 rfl rfl ?_
  refine C3.callS (hw _ (List.mem_of_getElem? (i := 15) rfl)) (hw _ (List.mem_of_getElem? (i := 16) rfl)) (hw _ (List.mem_of_getElem? (i := 11) rfl)) (hw _ (List.mem_of_getElem? (i := 17) rfl)) (by decide) (rm4 l Z a0 hw i0 h3 n0 C3.size ) (argsL := [(.int i0)]) pd4 rfl 2 (by decide) (by decide) (by decide) (by decide) (rest := [(.ref b3), (.ref b3)]) rfl rfl (Nat.le_of_eq rfl) d2_18 rfl (fun v4 T4 h4 C4 qq4 => ?_)
  obtain ⟨bo4, rfl, K4⟩ := qq4
  have K4 := ext_keep K4
  have S_COMPACT_STRINGS := S_COMPACT_STRINGS.ext K4
  have E_b3 := E_b3.ext K4
  have F_b3_value := F_b3_value.ext K4
  have F_b3_coder := F_b3_coder.ext K4
  have KP := KP.ext K4
  show Go p e below F n0 (fun v h' => ∃ bs : Addr, v = some (.ref bs) ∧ Keep h0 h' [] ∧ Exa Z h' bs "java/lang/String" ∧ n0 ≤ bs) T4 (mkF m 21 #[.val (.int i0)] [(.ref bo4), (.ref b3), (.ref b3)])
  refine C4.iconst (0 : Int32) d2_21 rfl rfl ?_
  refine C4.callN rfl (hw _ (List.mem_of_getElem? (i := 19) rfl)) (hw _ (List.mem_of_getElem? (i := 20) rfl)) (hw _ (List.mem_of_getElem? (i := 6) rfl)) (hw _ (List.mem_of_getElem? (i := 22) rfl)) (by decide) (a := b3) (rm5 l Z a0 hw b3 bo4 (0 : Int32) .null (.int (0 : Int32)) h4 n0 C4.size E_b3 F_b3_value F_b3_coder g_b3) (argsL := [(.ref bo4), (.int (0 : Int32))]) pd5 rfl 1 (by decide) (by decide) (by decide) (by decide) (rest := [(.ref b3)]) rfl rfl (Nat.le_of_eq rfl) d2_22 rfl (fun v5 T5 h5 C5 qq5 => ?_)
  obtain ⟨rfl, K5, p5_0⟩ := qq5
  have S_COMPACT_STRINGS := own_stak S_COMPACT_STRINGS K5 (allS (own_plainE E_b3) (all0))
  have E_b3 := E_b3.keep K5
  have KP := KP.trans K5 (allS (Or.inr sz_b3) (all0))
  have E_b3 := p5_0
  show Go p e below F n0 (fun v h' => ∃ bs : Addr, v = some (.ref bs) ∧ Keep h0 h' [] ∧ Exa Z h' bs "java/lang/String" ∧ n0 ≤ bs) T5 (mkF m 25 #[.val (.int i0)] [(.ref b3)])
  exact C5.retA d2_25 rfl rfl rfl (by decide) (by decide) ⟨b3, rfl, KP, E_b3, g_b3⟩
set_option maxRecDepth 65536 in
set_option maxHeartbeats 40000000 in
theorem own_pre1_0 (i0 : Int32) (i1 : Int32) (cs : Int32) (hcs : ¬ cs = (0 : Int32)) (hn : i0 = (0 : Int32) ∨ i0 = (1 : Int32) ∨ i0 = (2 : Int32) ∨ i0 = (3 : Int32)) : ¬ (255 : Int32) < ((i1 &&& (255 : Int32)).toUInt32.toUInt16.toUInt32.toInt32) := by
  have ca_0 := c_i2c (i1 &&& (255 : Int32))
  have ca_1 := c_mask i1 (255 : Int32) 8 (by decide) (by decide)
  have bl_0 := (i0).le_toInt; have bu_0 := (i0).toInt_lt
  have bl_1 := (i1).le_toInt; have bu_1 := (i1).toInt_lt
  have bl_2 := (cs).le_toInt; have bu_2 := (cs).toInt_lt
  try simp only [own_eqite, own_iteeq] at *
  try simp only [ne_eq, and_true, true_and, or_true, true_or, and_false, false_and, or_false, false_or, not_true_eq_false, not_false_eq_true, Int32.lt_iff_toInt_lt, Int64.lt_iff_toInt_lt, ← Int32.toInt_inj, ← Int64.toInt_inj, Int32.reduceToInt, Int64.reduceToInt] at *
  omega
set_option maxRecDepth 65536 in
set_option maxHeartbeats 40000000 in
theorem own_pre1_1 (i0 : Int32) (i1 : Int32) (cs : Int32) (hcs : ¬ cs = (0 : Int32)) (hn : i0 = (0 : Int32) ∨ i0 = (1 : Int32) ∨ i0 = (2 : Int32) ∨ i0 = (3 : Int32)) : ¬ (255 : Int32) < ((((i1.toUInt32 >>> ((8 : Int32) &&& 31).toUInt32).toInt32) &&& (255 : Int32)).toUInt32.toUInt16.toUInt32.toInt32) := by
  have ca_0 := c_i2c (((i1.toUInt32 >>> ((8 : Int32) &&& 31).toUInt32).toInt32) &&& (255 : Int32))
  have ca_1 := c_mask ((i1.toUInt32 >>> ((8 : Int32) &&& 31).toUInt32).toInt32) (255 : Int32) 8 (by decide) (by decide)
  have ca_2 := c_iushr i1 8 8 (by decide) (by decide)
  have bl_0 := (i0).le_toInt; have bu_0 := (i0).toInt_lt
  have bl_1 := (i1).le_toInt; have bu_1 := (i1).toInt_lt
  have bl_2 := (cs).le_toInt; have bu_2 := (cs).toInt_lt
  try simp only [own_eqite, own_iteeq] at *
  try simp only [ne_eq, and_true, true_and, or_true, true_or, and_false, false_and, or_false, false_or, not_true_eq_false, not_false_eq_true, Int32.lt_iff_toInt_lt, Int64.lt_iff_toInt_lt, ← Int32.toInt_inj, ← Int64.toInt_inj, Int32.reduceToInt, Int64.reduceToInt] at *
  omega
set_option maxRecDepth 65536 in
set_option maxHeartbeats 40000000 in
theorem own_pre1_2 (i0 : Int32) (i1 : Int32) (cs : Int32) (hcs : ¬ cs = (0 : Int32)) (hn : i0 = (0 : Int32) ∨ i0 = (1 : Int32) ∨ i0 = (2 : Int32) ∨ i0 = (3 : Int32)) : ¬ (255 : Int32) < ((((i1.toUInt32 >>> ((16 : Int32) &&& 31).toUInt32).toInt32) &&& (255 : Int32)).toUInt32.toUInt16.toUInt32.toInt32) := by
  have ca_0 := c_i2c (((i1.toUInt32 >>> ((16 : Int32) &&& 31).toUInt32).toInt32) &&& (255 : Int32))
  have ca_1 := c_mask ((i1.toUInt32 >>> ((16 : Int32) &&& 31).toUInt32).toInt32) (255 : Int32) 8 (by decide) (by decide)
  have ca_2 := c_iushr i1 16 16 (by decide) (by decide)
  have bl_0 := (i0).le_toInt; have bu_0 := (i0).toInt_lt
  have bl_1 := (i1).le_toInt; have bu_1 := (i1).toInt_lt
  have bl_2 := (cs).le_toInt; have bu_2 := (cs).toInt_lt
  try simp only [own_eqite, own_iteeq] at *
  try simp only [ne_eq, and_true, true_and, or_true, true_or, and_false, false_and, or_false, false_or, not_true_eq_false, not_false_eq_true, Int32.lt_iff_toInt_lt, Int64.lt_iff_toInt_lt, ← Int32.toInt_inj, ← Int64.toInt_inj, Int32.reduceToInt, Int64.reduceToInt] at *
  omega
theorem pn1 : plainName "com/example/bouncer/bouncer/cli/ArgumentsHasNextPinLaw" = true := by first | (simp [plainName, overriddenIn]; done) | decide +kernel
theorem pd1 : parseMethodDescriptor "(II)[Ljava/lang/String;" = some ⟨[.int, .int], some (.array (.object "java/lang/String"))⟩ := by decide +kernel
theorem ef1 (m : MethodId) (i0 : Int32) (i1 : Int32) : entryFrame m #[(.int i0), (.int i1)] 5 = mkF m 0 #[.val (.int i0), .val (.int i1), .unset, .unset, .unset] [] := by first | (simp [entryFrame, mkF, argsToLocals, Value.category]; done) | rfl
theorem d1_0 : decode method_2_code 0 = .ok (.iload_n 1, 1) := by decide +kernel
theorem d1_1 : decode method_2_code 1 = .ok (.sipush 255, 3) := by decide +kernel
theorem d1_4 : decode method_2_code 4 = .ok (.iand, 1) := by decide +kernel
theorem d1_5 : decode method_2_code 5 = .ok (.i2c, 1) := by decide +kernel
theorem d1_6 : decode method_2_code 6 = .ok (.invokestatic 7, 3) := by decide +kernel
theorem d1_9 : decode method_2_code 9 = .ok (.astore_n 2, 1) := by decide +kernel
theorem d1_10 : decode method_2_code 10 = .ok (.iload_n 1, 1) := by decide +kernel
theorem d1_11 : decode method_2_code 11 = .ok (.bipush 8, 2) := by decide +kernel
theorem d1_13 : decode method_2_code 13 = .ok (.iushr, 1) := by decide +kernel
theorem d1_14 : decode method_2_code 14 = .ok (.sipush 255, 3) := by decide +kernel
theorem d1_17 : decode method_2_code 17 = .ok (.iand, 1) := by decide +kernel
theorem d1_18 : decode method_2_code 18 = .ok (.i2c, 1) := by decide +kernel
theorem d1_19 : decode method_2_code 19 = .ok (.invokestatic 7, 3) := by decide +kernel
theorem d1_22 : decode method_2_code 22 = .ok (.astore_n 3, 1) := by decide +kernel
theorem d1_23 : decode method_2_code 23 = .ok (.iload_n 1, 1) := by decide +kernel
theorem d1_24 : decode method_2_code 24 = .ok (.bipush 16, 2) := by decide +kernel
theorem d1_26 : decode method_2_code 26 = .ok (.iushr, 1) := by decide +kernel
theorem d1_27 : decode method_2_code 27 = .ok (.sipush 255, 3) := by decide +kernel
theorem d1_30 : decode method_2_code 30 = .ok (.iand, 1) := by decide +kernel
theorem d1_31 : decode method_2_code 31 = .ok (.i2c, 1) := by decide +kernel
theorem d1_32 : decode method_2_code 32 = .ok (.invokestatic 7, 3) := by decide +kernel
theorem d1_35 : decode method_2_code 35 = .ok (.astore 4, 2) := by decide +kernel
theorem d1_37 : decode method_2_code 37 = .ok (.iload_n 0, 1) := by decide +kernel
theorem d1_38 : decode method_2_code 38 = .ok (.ifCond .ne 8, 3) := by decide +kernel
theorem d1_41 : decode method_2_code 41 = .ok (.iconst 0, 1) := by decide +kernel
theorem d1_42 : decode method_2_code 42 = .ok (.anewarray 8, 3) := by decide +kernel
theorem d1_45 : decode method_2_code 45 = .ok (.areturn, 1) := by decide +kernel
theorem d1_46 : decode method_2_code 46 = .ok (.iload_n 0, 1) := by decide +kernel
theorem d1_47 : decode method_2_code 47 = .ok (.iconst 1, 1) := by decide +kernel
theorem d1_48 : decode method_2_code 48 = .ok (.if_icmp .ne 12, 3) := by decide +kernel
theorem d1_51 : decode method_2_code 51 = .ok (.iconst 1, 1) := by decide +kernel
theorem d1_52 : decode method_2_code 52 = .ok (.anewarray 8, 3) := by decide +kernel
theorem d1_55 : decode method_2_code 55 = .ok (.dup, 1) := by decide +kernel
theorem d1_56 : decode method_2_code 56 = .ok (.iconst 0, 1) := by decide +kernel
theorem d1_57 : decode method_2_code 57 = .ok (.aload_n 2, 1) := by decide +kernel
theorem d1_58 : decode method_2_code 58 = .ok (.aastore, 1) := by decide +kernel
theorem d1_59 : decode method_2_code 59 = .ok (.areturn, 1) := by decide +kernel
theorem d1_60 : decode method_2_code 60 = .ok (.iload_n 0, 1) := by decide +kernel
theorem d1_61 : decode method_2_code 61 = .ok (.iconst 2, 1) := by decide +kernel
theorem d1_62 : decode method_2_code 62 = .ok (.if_icmp .ne 16, 3) := by decide +kernel
theorem d1_65 : decode method_2_code 65 = .ok (.iconst 2, 1) := by decide +kernel
theorem d1_66 : decode method_2_code 66 = .ok (.anewarray 8, 3) := by decide +kernel
theorem d1_69 : decode method_2_code 69 = .ok (.dup, 1) := by decide +kernel
theorem d1_70 : decode method_2_code 70 = .ok (.iconst 0, 1) := by decide +kernel
theorem d1_71 : decode method_2_code 71 = .ok (.aload_n 2, 1) := by decide +kernel
theorem d1_72 : decode method_2_code 72 = .ok (.aastore, 1) := by decide +kernel
theorem d1_73 : decode method_2_code 73 = .ok (.dup, 1) := by decide +kernel
theorem d1_74 : decode method_2_code 74 = .ok (.iconst 1, 1) := by decide +kernel
theorem d1_75 : decode method_2_code 75 = .ok (.aload_n 3, 1) := by decide +kernel
theorem d1_76 : decode method_2_code 76 = .ok (.aastore, 1) := by decide +kernel
theorem d1_77 : decode method_2_code 77 = .ok (.areturn, 1) := by decide +kernel
theorem d1_78 : decode method_2_code 78 = .ok (.iconst 3, 1) := by decide +kernel
theorem d1_79 : decode method_2_code 79 = .ok (.anewarray 8, 3) := by decide +kernel
theorem d1_82 : decode method_2_code 82 = .ok (.dup, 1) := by decide +kernel
theorem d1_83 : decode method_2_code 83 = .ok (.iconst 0, 1) := by decide +kernel
theorem d1_84 : decode method_2_code 84 = .ok (.aload_n 2, 1) := by decide +kernel
theorem d1_85 : decode method_2_code 85 = .ok (.aastore, 1) := by decide +kernel
theorem d1_86 : decode method_2_code 86 = .ok (.dup, 1) := by decide +kernel
theorem d1_87 : decode method_2_code 87 = .ok (.iconst 1, 1) := by decide +kernel
theorem d1_88 : decode method_2_code 88 = .ok (.aload_n 3, 1) := by decide +kernel
theorem d1_89 : decode method_2_code 89 = .ok (.aastore, 1) := by decide +kernel
theorem d1_90 : decode method_2_code 90 = .ok (.dup, 1) := by decide +kernel
theorem d1_91 : decode method_2_code 91 = .ok (.iconst 2, 1) := by decide +kernel
theorem d1_92 : decode method_2_code 92 = .ok (.aload 4, 2) := by decide +kernel
theorem d1_94 : decode method_2_code 94 = .ok (.aastore, 1) := by decide +kernel
theorem d1_95 : decode method_2_code 95 = .ok (.areturn, 1) := by decide +kernel
set_option maxRecDepth 65536 in
set_option maxHeartbeats 40000000 in
theorem rm1 (l : Launch) (Z : State) (a0 : Array Value) (hw : ∀ d ∈ tables_1, d.before a0 Z = true) (i0 : Int32) (i1 : Int32) (cs : Int32) (h0 : Heap) (n0 : Nat) (Z0 : n0 ≤ h0.size) (S_COMPACT_STRINGS : Sta Z h0 "java/lang/String" "COMPACT_STRINGS" "Z" (.int cs)) (hcs : ¬ cs = (0 : Int32)) (hn : i0 = (0 : Int32) ∨ i0 = (1 : Int32) ∨ i0 = (2 : Int32) ∨ i0 = (3 : Int32)) :
    Ctr l Z (⟨"com/example/bouncer/bouncer/cli/ArgumentsHasNextPinLaw", "make", "(II)[Ljava/lang/String;"⟩ : MethodName) method_2_code 5 (some (.array (.object "java/lang/String"))) ({ frames := 3, cells := 7, slots := 18, locals := 39 } : Room) #[(.int i0), (.int i1)] h0 n0 (fun v h' => ∃ bo : Addr, ∃ ko : ClassId, ∃ vs : List Value, v = some (.ref bo) ∧ Keep h0 h' [] ∧ Exa Z h' bo "[Ljava/lang/String;" ∧ Arv Z h' bo ko (.object "java/lang/String") i0 vs .null ∧ (∀ j, (vs.getD j .null).isRef = true) ∧ n0 ≤ bo) := by
  refine Ctr.body (L := #[.val (.int i0), .val (.int i1), .unset, .unset, .unset]) (plainFor_of_name pn1) Z0 (fun m => ef1 m i0 i1) ?_
  intro p e F m below meth c T0 C0
  have KP : Keep h0 h0 [] := Keep.refl h0 _
  refine C0.iloadN d1_0 rfl rfl ?_
  refine C0.sipush (255 : Int32) d1_1 rfl rfl ?_
  refine C0.iand d1_4 rfl ?_
  refine C0.i2c d1_5 rfl ?_
  refine C0.callS (hw _ (List.mem_of_getElem? (i := 4) rfl)) (hw _ (List.mem_of_getElem? (i := 5) rfl)) (hw _ (List.mem_of_getElem? (i := 6) rfl)) (hw _ (List.mem_of_getElem? (i := 7) rfl)) (by decide) (rm2 l Z a0 hw ((i1 &&& (255 : Int32)).toUInt32.toUInt16.toUInt32.toInt32) cs h0 n0 C0.size S_COMPACT_STRINGS hcs (own_pre1_0 i0 i1 cs hcs hn)) (argsL := [(.int ((i1 &&& (255 : Int32)).toUInt32.toUInt16.toUInt32.toInt32))]) pd2 rfl 0 (by decide) (by decide) (by decide) (by decide) (rest := []) rfl rfl (Nat.le_of_eq rfl) d1_6 rfl (fun v1 T1 h1 C1 qq1 => ?_)
  obtain ⟨bs1, rfl, K1, p1_0, p1_1⟩ := qq1
  have K1 := ext_keep K1
  have S_COMPACT_STRINGS := S_COMPACT_STRINGS.ext K1
  have KP := KP.ext K1
  have E_bs1 := p1_0
  have g_bs1 := p1_1
  show Go p e below F n0 (fun v h' => ∃ bo : Addr, ∃ ko : ClassId, ∃ vs : List Value, v = some (.ref bo) ∧ Keep h0 h' [] ∧ Exa Z h' bo "[Ljava/lang/String;" ∧ Arv Z h' bo ko (.object "java/lang/String") i0 vs .null ∧ (∀ j, (vs.getD j .null).isRef = true) ∧ n0 ≤ bo) T1 (mkF m 9 #[.val (.int i0), .val (.int i1), .unset, .unset, .unset] [(.ref bs1)])
  refine C1.astoreN d1_9 rfl rfl (L' := #[.val (.int i0), .val (.int i1), .val (.ref bs1), .unset, .unset]) rfl ?_
  refine C1.iloadN d1_10 rfl rfl ?_
  refine C1.bipush (8 : Int32) d1_11 rfl rfl ?_
  refine C1.iushr d1_13 rfl ?_
  refine C1.sipush (255 : Int32) d1_14 rfl rfl ?_
  refine C1.iand d1_17 rfl ?_
  refine C1.i2c d1_18 rfl ?_
  refine C1.callS (hw _ (List.mem_of_getElem? (i := 4) rfl)) (hw _ (List.mem_of_getElem? (i := 5) rfl)) (hw _ (List.mem_of_getElem? (i := 6) rfl)) (hw _ (List.mem_of_getElem? (i := 7) rfl)) (by decide) (rm2 l Z a0 hw ((((i1.toUInt32 >>> ((8 : Int32) &&& 31).toUInt32).toInt32) &&& (255 : Int32)).toUInt32.toUInt16.toUInt32.toInt32) cs h1 n0 C1.size S_COMPACT_STRINGS hcs (own_pre1_1 i0 i1 cs hcs hn)) (argsL := [(.int ((((i1.toUInt32 >>> ((8 : Int32) &&& 31).toUInt32).toInt32) &&& (255 : Int32)).toUInt32.toUInt16.toUInt32.toInt32))]) pd2 rfl 0 (by decide) (by decide) (by decide) (by decide) (rest := []) rfl rfl (Nat.le_of_eq rfl) d1_19 rfl (fun v2 T2 h2 C2 qq2 => ?_)
  obtain ⟨bs2, rfl, K2, p2_0, p2_1⟩ := qq2
  have K2 := ext_keep K2
  have S_COMPACT_STRINGS := S_COMPACT_STRINGS.ext K2
  have E_bs1 := E_bs1.ext K2
  have KP := KP.ext K2
  have E_bs2 := p2_0
  have g_bs2 := p2_1
  show Go p e below F n0 (fun v h' => ∃ bo : Addr, ∃ ko : ClassId, ∃ vs : List Value, v = some (.ref bo) ∧ Keep h0 h' [] ∧ Exa Z h' bo "[Ljava/lang/String;" ∧ Arv Z h' bo ko (.object "java/lang/String") i0 vs .null ∧ (∀ j, (vs.getD j .null).isRef = true) ∧ n0 ≤ bo) T2 (mkF m 22 #[.val (.int i0), .val (.int i1), .val (.ref bs1), .unset, .unset] [(.ref bs2)])
  refine C2.astoreN d1_22 rfl rfl (L' := #[.val (.int i0), .val (.int i1), .val (.ref bs1), .val (.ref bs2), .unset]) rfl ?_
  refine C2.iloadN d1_23 rfl rfl ?_
  refine C2.bipush (16 : Int32) d1_24 rfl rfl ?_
  refine C2.iushr d1_26 rfl ?_
  refine C2.sipush (255 : Int32) d1_27 rfl rfl ?_
  refine C2.iand d1_30 rfl ?_
  refine C2.i2c d1_31 rfl ?_
  refine C2.callS (hw _ (List.mem_of_getElem? (i := 4) rfl)) (hw _ (List.mem_of_getElem? (i := 5) rfl)) (hw _ (List.mem_of_getElem? (i := 6) rfl)) (hw _ (List.mem_of_getElem? (i := 7) rfl)) (by decide) (rm2 l Z a0 hw ((((i1.toUInt32 >>> ((16 : Int32) &&& 31).toUInt32).toInt32) &&& (255 : Int32)).toUInt32.toUInt16.toUInt32.toInt32) cs h2 n0 C2.size S_COMPACT_STRINGS hcs (own_pre1_2 i0 i1 cs hcs hn)) (argsL := [(.int ((((i1.toUInt32 >>> ((16 : Int32) &&& 31).toUInt32).toInt32) &&& (255 : Int32)).toUInt32.toUInt16.toUInt32.toInt32))]) pd2 rfl 0 (by decide) (by decide) (by decide) (by decide) (rest := []) rfl rfl (Nat.le_of_eq rfl) d1_32 rfl (fun v3 T3 h3 C3 qq3 => ?_)
  obtain ⟨bs3, rfl, K3, p3_0, p3_1⟩ := qq3
  have K3 := ext_keep K3
  have S_COMPACT_STRINGS := S_COMPACT_STRINGS.ext K3
  have E_bs1 := E_bs1.ext K3
  have E_bs2 := E_bs2.ext K3
  have KP := KP.ext K3
  have E_bs3 := p3_0
  have g_bs3 := p3_1
  show Go p e below F n0 (fun v h' => ∃ bo : Addr, ∃ ko : ClassId, ∃ vs : List Value, v = some (.ref bo) ∧ Keep h0 h' [] ∧ Exa Z h' bo "[Ljava/lang/String;" ∧ Arv Z h' bo ko (.object "java/lang/String") i0 vs .null ∧ (∀ j, (vs.getD j .null).isRef = true) ∧ n0 ≤ bo) T3 (mkF m 35 #[.val (.int i0), .val (.int i1), .val (.ref bs1), .val (.ref bs2), .unset] [(.ref bs3)])
  refine C3.astore d1_35 rfl rfl (L' := #[.val (.int i0), .val (.int i1), .val (.ref bs1), .val (.ref bs2), .val (.ref bs3)]) rfl ?_
  refine C3.iloadN d1_37 rfl rfl ?_
  refine C3.if_ne d1_38 (by decide) (by decide : _ = 46) rfl (fun c38 => ?_) (fun c38 => ?_)
  · refine C3.iloadN d1_46 rfl rfl ?_
    refine C3.iconst (1 : Int32) d1_47 rfl rfl ?_
    refine C3.icmp_ne d1_48 (by decide) (by decide : _ = 60) rfl (fun c48 => ?_) (fun c48 => ?_)
    · refine C3.iloadN d1_60 rfl rfl ?_
      refine C3.iconst (2 : Int32) d1_61 rfl rfl ?_
      refine C3.icmp_ne d1_62 (by decide) (by decide : _ = 78) rfl (fun c62 => ?_) (fun c62 => ?_)
      · refine C3.iconst (3 : Int32) d1_78 rfl rfl ?_
        refine C3.newrefs (hw _ (List.mem_of_getElem? (i := 30) rfl)) (hw _ (List.mem_of_getElem? (i := 31) rfl)) 3 (by decide) (by decide) (by decide) (by decide) (by decide) (ad := "[Ljava/lang/String;") rfl d1_79 rfl (fun T4 h4 b4 k4 C4 e4 g_b4 E4 V_b4 E_b4 O_k4 => ?_)
        have ne_bs1_b4 : bs1 ≠ b4 := Nat.ne_of_lt (Nat.lt_of_lt_of_eq E_bs1.lt e4.symm)
        have ne_bs2_b4 : bs2 ≠ b4 := Nat.ne_of_lt (Nat.lt_of_lt_of_eq E_bs2.lt e4.symm)
        have ne_bs3_b4 : bs3 ≠ b4 := Nat.ne_of_lt (Nat.lt_of_lt_of_eq E_bs3.lt e4.symm)
        have sz_b4 : h0.size ≤ b4 := Nat.le_trans KP.1 (Nat.le_of_eq e4.symm)
        have S_COMPACT_STRINGS := S_COMPACT_STRINGS.ext E4
        have E_bs1 := E_bs1.ext E4
        have E_bs2 := E_bs2.ext E4
        have E_bs3 := E_bs3.ext E4
        have KP := KP.ext E4
        have V_b4 : Arv Z h4 b4 k4 (.object "java/lang/String") (3 : Int32) ([.null, .null, .null] : List Value) .null := V_b4
        refine C4.dup d1_82 rfl rfl ?_
        refine C4.iconst (0 : Int32) d1_83 rfl rfl ?_
        refine C4.aloadN d1_84 rfl rfl rfl ?_
        refine C4.aastore V_b4 O_k4 (Ins.self E_bs1) ⟨by decide, by decide⟩ (Nat.le_of_ble_eq_true rfl) g_b4 d1_85 rfl (fun T5 h5 C5 W5 Vn5 => ?_)
        have S_COMPACT_STRINGS := S_COMPACT_STRINGS.wr W5
        have E_bs1 := E_bs1.wr W5
        have E_bs2 := E_bs2.wr W5
        have E_bs3 := E_bs3.wr W5
        have E_b4 := E_b4.wr W5
        have KP := KP.wr W5 (Or.inr sz_b4)
        have V_b4 : Arv Z h5 b4 k4 (.object "java/lang/String") (3 : Int32) [(.ref bs1), .null, .null] .null := Vn5
        refine C5.dup d1_86 rfl rfl ?_
        refine C5.iconst (1 : Int32) d1_87 rfl rfl ?_
        refine C5.aloadN d1_88 rfl rfl rfl ?_
        refine C5.aastore V_b4 O_k4 (Ins.self E_bs2) ⟨by decide, by decide⟩ (Nat.le_of_ble_eq_true rfl) g_b4 d1_89 rfl (fun T6 h6 C6 W6 Vn6 => ?_)
        have S_COMPACT_STRINGS := S_COMPACT_STRINGS.wr W6
        have E_bs1 := E_bs1.wr W6
        have E_bs2 := E_bs2.wr W6
        have E_bs3 := E_bs3.wr W6
        have E_b4 := E_b4.wr W6
        have KP := KP.wr W6 (Or.inr sz_b4)
        have V_b4 : Arv Z h6 b4 k4 (.object "java/lang/String") (3 : Int32) [(.ref bs1), (.ref bs2), .null] .null := Vn6
        refine C6.dup d1_90 rfl rfl ?_
        refine C6.iconst (2 : Int32) d1_91 rfl rfl ?_
        refine C6.aload d1_92 rfl rfl rfl ?_
        refine C6.aastore V_b4 O_k4 (Ins.self E_bs3) ⟨by decide, by decide⟩ (Nat.le_of_ble_eq_true rfl) g_b4 d1_94 rfl (fun T7 h7 C7 W7 Vn7 => ?_)
        have S_COMPACT_STRINGS := S_COMPACT_STRINGS.wr W7
        have E_bs1 := E_bs1.wr W7
        have E_bs2 := E_bs2.wr W7
        have E_bs3 := E_bs3.wr W7
        have E_b4 := E_b4.wr W7
        have KP := KP.wr W7 (Or.inr sz_b4)
        have V_b4 : Arv Z h7 b4 k4 (.object "java/lang/String") (3 : Int32) [(.ref bs1), (.ref bs2), (.ref bs3)] .null := Vn7
        exact C7.retA d1_95 rfl rfl rfl (by decide) (by decide) ⟨b4, k4, ([(.ref bs1), (.ref bs2), (.ref bs3)] : List Value), rfl, KP, E_b4, (by rw [show i0 = (3 : Int32) from ((hn.resolve_left c38).resolve_left c48).resolve_left c62]; exact V_b4), (own_rf (by simp [Value.isRef])), g_b4⟩
      · refine C3.iconst (2 : Int32) d1_65 rfl rfl ?_
        refine C3.newrefs (hw _ (List.mem_of_getElem? (i := 30) rfl)) (hw _ (List.mem_of_getElem? (i := 31) rfl)) 2 (by decide) (by decide) (by decide) (by decide) (by decide) (ad := "[Ljava/lang/String;") rfl d1_66 rfl (fun T8 h8 b8 k8 C8 e8 g_b8 E8 V_b8 E_b8 O_k8 => ?_)
        have ne_bs1_b8 : bs1 ≠ b8 := Nat.ne_of_lt (Nat.lt_of_lt_of_eq E_bs1.lt e8.symm)
        have ne_bs2_b8 : bs2 ≠ b8 := Nat.ne_of_lt (Nat.lt_of_lt_of_eq E_bs2.lt e8.symm)
        have ne_bs3_b8 : bs3 ≠ b8 := Nat.ne_of_lt (Nat.lt_of_lt_of_eq E_bs3.lt e8.symm)
        have sz_b8 : h0.size ≤ b8 := Nat.le_trans KP.1 (Nat.le_of_eq e8.symm)
        have S_COMPACT_STRINGS := S_COMPACT_STRINGS.ext E8
        have E_bs1 := E_bs1.ext E8
        have E_bs2 := E_bs2.ext E8
        have E_bs3 := E_bs3.ext E8
        have KP := KP.ext E8
        have V_b8 : Arv Z h8 b8 k8 (.object "java/lang/String") (2 : Int32) ([.null, .null] : List Value) .null := V_b8
        refine C8.dup d1_69 rfl rfl ?_
        refine C8.iconst (0 : Int32) d1_70 rfl rfl ?_
        refine C8.aloadN d1_71 rfl rfl rfl ?_
        refine C8.aastore V_b8 O_k8 (Ins.self E_bs1) ⟨by decide, by decide⟩ (Nat.le_of_ble_eq_true rfl) g_b8 d1_72 rfl (fun T9 h9 C9 W9 Vn9 => ?_)
        have S_COMPACT_STRINGS := S_COMPACT_STRINGS.wr W9
        have E_bs1 := E_bs1.wr W9
        have E_bs2 := E_bs2.wr W9
        have E_bs3 := E_bs3.wr W9
        have E_b8 := E_b8.wr W9
        have KP := KP.wr W9 (Or.inr sz_b8)
        have V_b8 : Arv Z h9 b8 k8 (.object "java/lang/String") (2 : Int32) [(.ref bs1), .null] .null := Vn9
        refine C9.dup d1_73 rfl rfl ?_
        refine C9.iconst (1 : Int32) d1_74 rfl rfl ?_
        refine C9.aloadN d1_75 rfl rfl rfl ?_
        refine C9.aastore V_b8 O_k8 (Ins.self E_bs2) ⟨by decide, by decide⟩ (Nat.le_of_ble_eq_true rfl) g_b8 d1_76 rfl (fun T10 h10 C10 W10 Vn10 => ?_)
        have S_COMPACT_STRINGS := S_COMPACT_STRINGS.wr W10
        have E_bs1 := E_bs1.wr W10
        have E_bs2 := E_bs2.wr W10
        have E_bs3 := E_bs3.wr W10
        have E_b8 := E_b8.wr W10
        have KP := KP.wr W10 (Or.inr sz_b8)
        have V_b8 : Arv Z h10 b8 k8 (.object "java/lang/String") (2 : Int32) [(.ref bs1), (.ref bs2)] .null := Vn10
        exact C10.retA d1_77 rfl rfl rfl (by decide) (by decide) ⟨b8, k8, ([(.ref bs1), (.ref bs2)] : List Value), rfl, KP, E_b8, (by rw [c62]; exact V_b8), (own_rf (by simp [Value.isRef])), g_b8⟩
    · refine C3.iconst (1 : Int32) d1_51 rfl rfl ?_
      refine C3.newrefs (hw _ (List.mem_of_getElem? (i := 30) rfl)) (hw _ (List.mem_of_getElem? (i := 31) rfl)) 1 (by decide) (by decide) (by decide) (by decide) (by decide) (ad := "[Ljava/lang/String;") rfl d1_52 rfl (fun T11 h11 b11 k11 C11 e11 g_b11 E11 V_b11 E_b11 O_k11 => ?_)
      have ne_bs1_b11 : bs1 ≠ b11 := Nat.ne_of_lt (Nat.lt_of_lt_of_eq E_bs1.lt e11.symm)
      have ne_bs2_b11 : bs2 ≠ b11 := Nat.ne_of_lt (Nat.lt_of_lt_of_eq E_bs2.lt e11.symm)
      have ne_bs3_b11 : bs3 ≠ b11 := Nat.ne_of_lt (Nat.lt_of_lt_of_eq E_bs3.lt e11.symm)
      have sz_b11 : h0.size ≤ b11 := Nat.le_trans KP.1 (Nat.le_of_eq e11.symm)
      have S_COMPACT_STRINGS := S_COMPACT_STRINGS.ext E11
      have E_bs1 := E_bs1.ext E11
      have E_bs2 := E_bs2.ext E11
      have E_bs3 := E_bs3.ext E11
      have KP := KP.ext E11
      have V_b11 : Arv Z h11 b11 k11 (.object "java/lang/String") (1 : Int32) ([.null] : List Value) .null := V_b11
      refine C11.dup d1_55 rfl rfl ?_
      refine C11.iconst (0 : Int32) d1_56 rfl rfl ?_
      refine C11.aloadN d1_57 rfl rfl rfl ?_
      refine C11.aastore V_b11 O_k11 (Ins.self E_bs1) ⟨by decide, by decide⟩ (Nat.le_of_ble_eq_true rfl) g_b11 d1_58 rfl (fun T12 h12 C12 W12 Vn12 => ?_)
      have S_COMPACT_STRINGS := S_COMPACT_STRINGS.wr W12
      have E_bs1 := E_bs1.wr W12
      have E_bs2 := E_bs2.wr W12
      have E_bs3 := E_bs3.wr W12
      have E_b11 := E_b11.wr W12
      have KP := KP.wr W12 (Or.inr sz_b11)
      have V_b11 : Arv Z h12 b11 k11 (.object "java/lang/String") (1 : Int32) [(.ref bs1)] .null := Vn12
      exact C12.retA d1_59 rfl rfl rfl (by decide) (by decide) ⟨b11, k11, ([(.ref bs1)] : List Value), rfl, KP, E_b11, (by rw [c48]; exact V_b11), (own_rf (by simp [Value.isRef])), g_b11⟩
  · refine C3.iconst (0 : Int32) d1_41 rfl rfl ?_
    refine C3.newrefs (hw _ (List.mem_of_getElem? (i := 30) rfl)) (hw _ (List.mem_of_getElem? (i := 31) rfl)) 0 (by decide) (by decide) (by decide) (by decide) (by decide) (ad := "[Ljava/lang/String;") rfl d1_42 rfl (fun T13 h13 b13 k13 C13 e13 g_b13 E13 V_b13 E_b13 O_k13 => ?_)
    have ne_bs1_b13 : bs1 ≠ b13 := Nat.ne_of_lt (Nat.lt_of_lt_of_eq E_bs1.lt e13.symm)
    have ne_bs2_b13 : bs2 ≠ b13 := Nat.ne_of_lt (Nat.lt_of_lt_of_eq E_bs2.lt e13.symm)
    have ne_bs3_b13 : bs3 ≠ b13 := Nat.ne_of_lt (Nat.lt_of_lt_of_eq E_bs3.lt e13.symm)
    have sz_b13 : h0.size ≤ b13 := Nat.le_trans KP.1 (Nat.le_of_eq e13.symm)
    have S_COMPACT_STRINGS := S_COMPACT_STRINGS.ext E13
    have E_bs1 := E_bs1.ext E13
    have E_bs2 := E_bs2.ext E13
    have E_bs3 := E_bs3.ext E13
    have KP := KP.ext E13
    have V_b13 : Arv Z h13 b13 k13 (.object "java/lang/String") (0 : Int32) ([] : List Value) .null := V_b13
    exact C13.retA d1_45 rfl rfl rfl (by decide) (by decide) ⟨b13, k13, ([] : List Value), rfl, KP, E_b13, (by rw [c38]; exact V_b13), (own_rf (by simp [Value.isRef])), g_b13⟩
theorem pn7 : plainName "com/example/bouncer/bouncer/cli/Arguments" = true := by first | (simp [plainName, overriddenIn]; done) | decide +kernel
theorem pd7 : parseMethodDescriptor "(Ljava/lang/String;Ljava/lang/String;[Ljava/lang/String;I)V" = some ⟨[(.object "java/lang/String"), (.object "java/lang/String"), (.array (.object "java/lang/String")), .int], none⟩ := by decide +kernel
theorem ef7 (m : MethodId) (o0 : Addr) (o1 : Addr) (o2 : Addr) (o3 : Addr) (i4 : Int32) : entryFrame m #[(.ref o0), (.ref o1), (.ref o2), (.ref o3), (.int i4)] 5 = mkF m 0 #[.val (.ref o0), .val (.ref o1), .val (.ref o2), .val (.ref o3), .val (.int i4)] [] := by first | (simp [entryFrame, mkF, argsToLocals, Value.category]; done) | rfl
theorem d7_0 : decode prog_26_method_1_code 0 = .ok (.aload_n 0, 1) := by decide +kernel
theorem d7_1 : decode prog_26_method_1_code 1 = .ok (.invokespecial 1, 3) := by decide +kernel
theorem d7_4 : decode prog_26_method_1_code 4 = .ok (.aload_n 0, 1) := by decide +kernel
theorem d7_5 : decode prog_26_method_1_code 5 = .ok (.new 7, 3) := by decide +kernel
theorem d7_8 : decode prog_26_method_1_code 8 = .ok (.dup, 1) := by decide +kernel
theorem d7_9 : decode prog_26_method_1_code 9 = .ok (.invokespecial 9, 3) := by decide +kernel
theorem d7_12 : decode prog_26_method_1_code 12 = .ok (.putfield 10, 3) := by decide +kernel
theorem d7_15 : decode prog_26_method_1_code 15 = .ok (.aload_n 0, 1) := by decide +kernel
theorem d7_16 : decode prog_26_method_1_code 16 = .ok (.aload_n 1, 1) := by decide +kernel
theorem d7_17 : decode prog_26_method_1_code 17 = .ok (.putfield 16, 3) := by decide +kernel
theorem d7_20 : decode prog_26_method_1_code 20 = .ok (.aload_n 0, 1) := by decide +kernel
theorem d7_21 : decode prog_26_method_1_code 21 = .ok (.aload_n 2, 1) := by decide +kernel
theorem d7_22 : decode prog_26_method_1_code 22 = .ok (.putfield 20, 3) := by decide +kernel
theorem d7_25 : decode prog_26_method_1_code 25 = .ok (.aload_n 0, 1) := by decide +kernel
theorem d7_26 : decode prog_26_method_1_code 26 = .ok (.aload_n 3, 1) := by decide +kernel
theorem d7_27 : decode prog_26_method_1_code 27 = .ok (.invokevirtual 23, 3) := by decide +kernel
theorem d7_30 : decode prog_26_method_1_code 30 = .ok (.checkcast 24, 3) := by decide +kernel
theorem d7_33 : decode prog_26_method_1_code 33 = .ok (.putfield 29, 3) := by decide +kernel
theorem d7_36 : decode prog_26_method_1_code 36 = .ok (.aload_n 0, 1) := by decide +kernel
theorem d7_37 : decode prog_26_method_1_code 37 = .ok (.iload 4, 2) := by decide +kernel
theorem d7_39 : decode prog_26_method_1_code 39 = .ok (.putfield 32, 3) := by decide +kernel
theorem d7_42 : decode prog_26_method_1_code 42 = .ok (.return_, 1) := by decide +kernel
set_option maxRecDepth 65536 in
set_option maxHeartbeats 40000000 in
theorem rm7 (l : Launch) (Z : State) (a0 : Array Value) (hw : ∀ d ∈ tables_1, d.before a0 Z = true) (o0 : Addr) (o1 : Addr) (o2 : Addr) (o3 : Addr) (i4 : Int32) (de : Addr) (x0 : Value) (x1 : Value) (x2 : Value) (x3 : Value) (x4 : Value) (k1 : ClassId) (n1 : Int32) (vs : List Value) (dv : Value) (h0 : Heap) (n0 : Nat) (Z0 : n0 ≤ h0.size) (E_o0 : Exa Z h0 o0 "com/example/bouncer/bouncer/cli/Arguments") (F_o0_operands : Fld Z h0 o0 "com/example/bouncer/bouncer/cli/Arguments" "operands" "Ljava/util/List;" x0) (F_o0_command : Fld Z h0 o0 "com/example/bouncer/bouncer/cli/Arguments" "command" "Ljava/lang/String;" x1) (F_o0_usage : Fld Z h0 o0 "com/example/bouncer/bouncer/cli/Arguments" "usage" "Ljava/lang/String;" x2) (F_o0_arguments : Fld Z h0 o0 "com/example/bouncer/bouncer/cli/Arguments" "arguments" "[Ljava/lang/String;" x3) (F_o0_maxOperands : Fld Z h0 o0 "com/example/bouncer/bouncer/cli/Arguments" "maxOperands" "I" x4) (F_o0_next : Fld Z h0 o0 "com/example/bouncer/bouncer/cli/Arguments" "next" "I" (.int (0 : Int32))) (g_o0 : n0 ≤ o0) (S_DEFAULTCAPACITY_EMPTY_ELEMENTDATA : Sta Z h0 "java/util/ArrayList" "DEFAULTCAPACITY_EMPTY_ELEMENTDATA" "[Ljava/lang/Object;" (.ref de)) (E_o3 : Exa Z h0 o3 "[Ljava/lang/String;") (V_o3 : Arv Z h0 o3 k1 (.object "java/lang/String") n1 vs dv) (hc3 : (n1).toNatClampNeg ≤ 3) :
    Ctr l Z (⟨"com/example/bouncer/bouncer/cli/Arguments", "<init>", "(Ljava/lang/String;Ljava/lang/String;[Ljava/lang/String;I)V"⟩ : MethodName) prog_26_method_1_code 5 none ({ frames := 4, cells := 2, slots := 6, locals := 50 } : Room) #[(.ref o0), (.ref o1), (.ref o2), (.ref o3), (.int i4)] h0 n0 (fun v h' => ∃ bc : Addr, v = none ∧ Keep h0 h' [o0] ∧ Exa Z h' o0 "com/example/bouncer/bouncer/cli/Arguments" ∧ Fld Z h' o0 "com/example/bouncer/bouncer/cli/Arguments" "arguments" "[Ljava/lang/String;" (.ref bc) ∧ Fld Z h' o0 "com/example/bouncer/bouncer/cli/Arguments" "next" "I" (.int (0 : Int32)) ∧ Exa Z h' bc "[Ljava/lang/String;" ∧ Arv Z h' bc k1 (.object "java/lang/String") n1 vs dv ∧ n0 ≤ bc) := by
  refine Ctr.body (L := #[.val (.ref o0), .val (.ref o1), .val (.ref o2), .val (.ref o3), .val (.int i4)]) (plainFor_of_name pn7) Z0 (fun m => ef7 m o0 o1 o2 o3 i4) ?_
  intro p e F m below meth c T0 C0
  have KP : Keep h0 h0 [o0] := Keep.refl h0 _
  refine C0.aloadN d7_0 rfl rfl rfl ?_
  refine C0.initObj (hw _ (List.mem_of_getElem? (i := 42) rfl)) (hw _ (List.mem_of_getElem? (i := 24) rfl)) (hw _ (List.mem_of_getElem? (i := 25) rfl)) rfl (by decide) 0 (Nat.le_of_eq rfl) (by decide) d7_1 rfl (fun T1 C1 => ?_)
  refine C1.aloadN d7_4 rfl rfl rfl ?_
  refine C1.new (hw _ (List.mem_of_getElem? (i := 43) rfl)) (hw _ (List.mem_of_getElem? (i := 44) rfl)) (hw _ (List.mem_of_getElem? (i := 45) rfl)) d7_5 rfl (by decide) (by decide) (fun T2 h2 b2 C2 e2 g_b2 E2 E_b2 D2 => ?_)
  have ne_o0_b2 : o0 ≠ b2 := Nat.ne_of_lt (Nat.lt_of_lt_of_eq E_o0.lt e2.symm)
  have ne_o3_b2 : o3 ≠ b2 := Nat.ne_of_lt (Nat.lt_of_lt_of_eq E_o3.lt e2.symm)
  have sz_b2 : h0.size ≤ b2 := Nat.le_trans KP.1 (Nat.le_of_eq e2.symm)
  have E_o0 := E_o0.ext E2
  have F_o0_operands := F_o0_operands.ext E2
  have F_o0_command := F_o0_command.ext E2
  have F_o0_usage := F_o0_usage.ext E2
  have F_o0_arguments := F_o0_arguments.ext E2
  have F_o0_maxOperands := F_o0_maxOperands.ext E2
  have F_o0_next := F_o0_next.ext E2
  have S_DEFAULTCAPACITY_EMPTY_ELEMENTDATA := S_DEFAULTCAPACITY_EMPTY_ELEMENTDATA.ext E2
  have E_o3 := E_o3.ext E2
  have V_o3 := V_o3.ext E2
  have KP := KP.ext E2
  have F_b2_modCount : Fld Z h2 b2 "java/util/AbstractList" "modCount" "I" (.int (0 : Int32)) := D2 (Or.inl (hw _ (List.mem_of_getElem? (i := 63) rfl))) (ty := .int) (by decide)
  have F_b2_elementData : Fld Z h2 b2 "java/util/ArrayList" "elementData" "[Ljava/lang/Object;" .null := D2 (Or.inl (hw _ (List.mem_of_getElem? (i := 66) rfl))) (ty := (.array (.object "java/lang/Object"))) (by decide)
  refine C2.dup d7_8 rfl rfl ?_
  refine C2.callN rfl (hw _ (List.mem_of_getElem? (i := 46) rfl)) (hw _ (List.mem_of_getElem? (i := 47) rfl)) (hw _ (List.mem_of_getElem? (i := 45) rfl)) (hw _ (List.mem_of_getElem? (i := 48) rfl)) (by decide) (a := b2) (rm8 l Z a0 hw b2 de (.int (0 : Int32)) .null h2 n0 C2.size E_b2 F_b2_modCount F_b2_elementData g_b2 S_DEFAULTCAPACITY_EMPTY_ELEMENTDATA) (argsL := []) pd8 rfl 2 (by decide) (by decide) (by decide) (by decide) (rest := [(.ref b2), (.ref o0)]) rfl rfl (Nat.le_of_eq rfl) d7_9 rfl (fun v3 T3 h3 C3 qq3 => ?_)
  obtain ⟨rfl, K3, p3_0⟩ := qq3
  have S_DEFAULTCAPACITY_EMPTY_ELEMENTDATA := own_stak S_DEFAULTCAPACITY_EMPTY_ELEMENTDATA K3 (allS (own_plainE E_b2) (all0))
  have E_o0 := E_o0.keep K3
  have F_o0_operands := F_o0_operands.keep K3 (ninS ne_o0_b2 nin0)
  have F_o0_command := F_o0_command.keep K3 (ninS ne_o0_b2 nin0)
  have F_o0_usage := F_o0_usage.keep K3 (ninS ne_o0_b2 nin0)
  have F_o0_arguments := F_o0_arguments.keep K3 (ninS ne_o0_b2 nin0)
  have F_o0_maxOperands := F_o0_maxOperands.keep K3 (ninS ne_o0_b2 nin0)
  have F_o0_next := F_o0_next.keep K3 (ninS ne_o0_b2 nin0)
  have E_o3 := E_o3.keep K3
  have V_o3 := V_o3.keep K3 (ninS ne_o3_b2 nin0)
  have E_b2 := E_b2.keep K3
  have KP := KP.trans K3 (allS (Or.inr sz_b2) (all0))
  have E_b2 := p3_0
  show Go p e below F n0 (fun v h' => ∃ bc : Addr, v = none ∧ Keep h0 h' [o0] ∧ Exa Z h' o0 "com/example/bouncer/bouncer/cli/Arguments" ∧ Fld Z h' o0 "com/example/bouncer/bouncer/cli/Arguments" "arguments" "[Ljava/lang/String;" (.ref bc) ∧ Fld Z h' o0 "com/example/bouncer/bouncer/cli/Arguments" "next" "I" (.int (0 : Int32)) ∧ Exa Z h' bc "[Ljava/lang/String;" ∧ Arv Z h' bc k1 (.object "java/lang/String") n1 vs dv ∧ n0 ≤ bc) T3 (mkF m 12 #[.val (.ref o0), .val (.ref o1), .val (.ref o2), .val (.ref o3), .val (.int i4)] [(.ref b2), (.ref o0)])
  refine C3.putF (host := "") (Or.inl (hw _ (List.mem_of_getElem? (i := 67) rfl))) Via.refl F_o0_operands E_o0 (Or.inr ⟨(hw _ (List.mem_of_getElem? (i := 68) rfl)), rfl, rfl⟩) (hw _ (List.mem_of_getElem? (i := 33) rfl)) (ty := (.object "java/util/List")) (by decide) rfl rfl g_o0 d7_12 rfl (fun T4 h4 C4 W4 => ?_)
  have ne_o3_o0 : o3 ≠ o0 := (ne_exa E_o3 E_o0 (by decide))
  have E_o0 := E_o0.wr W4
  have F_o0_command := F_o0_command.other W4 (Or.inr (slot_ne (Or.inr (hw _ (List.mem_of_getElem? (i := 70) rfl))) (Or.inr (hw _ (List.mem_of_getElem? (i := 68) rfl))) (by decide) (t := (.object "java/lang/String")) (t' := (.object "java/util/List")) (by decide) (by decide)))
  have F_o0_usage := F_o0_usage.other W4 (Or.inr (slot_ne (Or.inr (hw _ (List.mem_of_getElem? (i := 72) rfl))) (Or.inr (hw _ (List.mem_of_getElem? (i := 68) rfl))) (by decide) (t := (.object "java/lang/String")) (t' := (.object "java/util/List")) (by decide) (by decide)))
  have F_o0_arguments := F_o0_arguments.other W4 (Or.inr (slot_ne (Or.inr (hw _ (List.mem_of_getElem? (i := 83) rfl))) (Or.inr (hw _ (List.mem_of_getElem? (i := 68) rfl))) (by decide) (t := (.array (.object "java/lang/String"))) (t' := (.object "java/util/List")) (by decide) (by decide)))
  have F_o0_maxOperands := F_o0_maxOperands.other W4 (Or.inr (slot_ne (Or.inr (hw _ (List.mem_of_getElem? (i := 85) rfl))) (Or.inr (hw _ (List.mem_of_getElem? (i := 68) rfl))) (by decide) (t := .int) (t' := (.object "java/util/List")) (by decide) (by decide)))
  have F_o0_next := F_o0_next.other W4 (Or.inr (slot_ne (Or.inl (hw _ (List.mem_of_getElem? (i := 92) rfl))) (Or.inr (hw _ (List.mem_of_getElem? (i := 68) rfl))) (by decide) (t := .int) (t' := (.object "java/util/List")) (by decide) (by decide)))
  have S_DEFAULTCAPACITY_EMPTY_ELEMENTDATA := S_DEFAULTCAPACITY_EMPTY_ELEMENTDATA.wr W4
  have E_o3 := E_o3.wr W4
  have V_o3 := V_o3.other W4 ne_o3_o0
  have E_b2 := E_b2.wr W4
  have KP := KP.wr W4 (Or.inl (by simp))
  have F_o0_operands := F_o0_operands.same W4
  refine C4.aloadN d7_15 rfl rfl rfl ?_
  refine C4.aloadN d7_16 rfl rfl rfl ?_
  refine C4.putF (host := "") (Or.inl (hw _ (List.mem_of_getElem? (i := 69) rfl))) Via.refl F_o0_command E_o0 (Or.inr ⟨(hw _ (List.mem_of_getElem? (i := 70) rfl)), rfl, rfl⟩) (hw _ (List.mem_of_getElem? (i := 33) rfl)) (ty := (.object "java/lang/String")) (by decide) rfl rfl g_o0 d7_17 rfl (fun T5 h5 C5 W5 => ?_)
  have E_o0 := E_o0.wr W5
  have F_o0_operands := F_o0_operands.other W5 (Or.inr (slot_ne (Or.inr (hw _ (List.mem_of_getElem? (i := 68) rfl))) (Or.inr (hw _ (List.mem_of_getElem? (i := 70) rfl))) (by decide) (t := (.object "java/util/List")) (t' := (.object "java/lang/String")) (by decide) (by decide)))
  have F_o0_usage := F_o0_usage.other W5 (Or.inr (slot_ne (Or.inr (hw _ (List.mem_of_getElem? (i := 72) rfl))) (Or.inr (hw _ (List.mem_of_getElem? (i := 70) rfl))) (by decide) (t := (.object "java/lang/String")) (t' := (.object "java/lang/String")) (by decide) (by decide)))
  have F_o0_arguments := F_o0_arguments.other W5 (Or.inr (slot_ne (Or.inr (hw _ (List.mem_of_getElem? (i := 83) rfl))) (Or.inr (hw _ (List.mem_of_getElem? (i := 70) rfl))) (by decide) (t := (.array (.object "java/lang/String"))) (t' := (.object "java/lang/String")) (by decide) (by decide)))
  have F_o0_maxOperands := F_o0_maxOperands.other W5 (Or.inr (slot_ne (Or.inr (hw _ (List.mem_of_getElem? (i := 85) rfl))) (Or.inr (hw _ (List.mem_of_getElem? (i := 70) rfl))) (by decide) (t := .int) (t' := (.object "java/lang/String")) (by decide) (by decide)))
  have F_o0_next := F_o0_next.other W5 (Or.inr (slot_ne (Or.inl (hw _ (List.mem_of_getElem? (i := 92) rfl))) (Or.inr (hw _ (List.mem_of_getElem? (i := 70) rfl))) (by decide) (t := .int) (t' := (.object "java/lang/String")) (by decide) (by decide)))
  have S_DEFAULTCAPACITY_EMPTY_ELEMENTDATA := S_DEFAULTCAPACITY_EMPTY_ELEMENTDATA.wr W5
  have E_o3 := E_o3.wr W5
  have V_o3 := V_o3.other W5 ne_o3_o0
  have E_b2 := E_b2.wr W5
  have KP := KP.wr W5 (Or.inl (by simp))
  have F_o0_command := F_o0_command.same W5
  refine C5.aloadN d7_20 rfl rfl rfl ?_
  refine C5.aloadN d7_21 rfl rfl rfl ?_
  refine C5.putF (host := "") (Or.inl (hw _ (List.mem_of_getElem? (i := 71) rfl))) Via.refl F_o0_usage E_o0 (Or.inr ⟨(hw _ (List.mem_of_getElem? (i := 72) rfl)), rfl, rfl⟩) (hw _ (List.mem_of_getElem? (i := 33) rfl)) (ty := (.object "java/lang/String")) (by decide) rfl rfl g_o0 d7_22 rfl (fun T6 h6 C6 W6 => ?_)
  have E_o0 := E_o0.wr W6
  have F_o0_operands := F_o0_operands.other W6 (Or.inr (slot_ne (Or.inr (hw _ (List.mem_of_getElem? (i := 68) rfl))) (Or.inr (hw _ (List.mem_of_getElem? (i := 72) rfl))) (by decide) (t := (.object "java/util/List")) (t' := (.object "java/lang/String")) (by decide) (by decide)))
  have F_o0_command := F_o0_command.other W6 (Or.inr (slot_ne (Or.inr (hw _ (List.mem_of_getElem? (i := 70) rfl))) (Or.inr (hw _ (List.mem_of_getElem? (i := 72) rfl))) (by decide) (t := (.object "java/lang/String")) (t' := (.object "java/lang/String")) (by decide) (by decide)))
  have F_o0_arguments := F_o0_arguments.other W6 (Or.inr (slot_ne (Or.inr (hw _ (List.mem_of_getElem? (i := 83) rfl))) (Or.inr (hw _ (List.mem_of_getElem? (i := 72) rfl))) (by decide) (t := (.array (.object "java/lang/String"))) (t' := (.object "java/lang/String")) (by decide) (by decide)))
  have F_o0_maxOperands := F_o0_maxOperands.other W6 (Or.inr (slot_ne (Or.inr (hw _ (List.mem_of_getElem? (i := 85) rfl))) (Or.inr (hw _ (List.mem_of_getElem? (i := 72) rfl))) (by decide) (t := .int) (t' := (.object "java/lang/String")) (by decide) (by decide)))
  have F_o0_next := F_o0_next.other W6 (Or.inr (slot_ne (Or.inl (hw _ (List.mem_of_getElem? (i := 92) rfl))) (Or.inr (hw _ (List.mem_of_getElem? (i := 72) rfl))) (by decide) (t := .int) (t' := (.object "java/lang/String")) (by decide) (by decide)))
  have S_DEFAULTCAPACITY_EMPTY_ELEMENTDATA := S_DEFAULTCAPACITY_EMPTY_ELEMENTDATA.wr W6
  have E_o3 := E_o3.wr W6
  have V_o3 := V_o3.other W6 ne_o3_o0
  have E_b2 := E_b2.wr W6
  have KP := KP.wr W6 (Or.inl (by simp))
  have F_o0_usage := F_o0_usage.same W6
  refine C6.aloadN d7_25 rfl rfl rfl ?_
  refine C6.aloadN d7_26 rfl rfl rfl ?_
  refine C6.clonearr (hw _ (List.mem_of_getElem? (i := 73) rfl)) (hw _ (List.mem_of_getElem? (i := 74) rfl)) (hw _ (List.mem_of_getElem? (i := 78) rfl)) (hw _ (List.mem_of_getElem? (i := 76) rfl)) (hw _ (List.mem_of_getElem? (i := 77) rfl)) (hw _ (List.mem_of_getElem? (i := 79) rfl)) V_o3 E_o3 rfl (by decide) 1 (Nat.le_of_eq rfl) (by decide) 3 hc3 (by decide) (by decide) d7_27 rfl (fun T7 h7 b7 C7 e7 g_b7 E7 V_b7 E_b7 => ?_)
  have ne_o0_b7 : o0 ≠ b7 := Nat.ne_of_lt (Nat.lt_of_lt_of_eq E_o0.lt e7.symm)
  have ne_o3_b7 : o3 ≠ b7 := Nat.ne_of_lt (Nat.lt_of_lt_of_eq E_o3.lt e7.symm)
  have ne_b2_b7 : b2 ≠ b7 := Nat.ne_of_lt (Nat.lt_of_lt_of_eq E_b2.lt e7.symm)
  have sz_b7 : h0.size ≤ b7 := Nat.le_trans KP.1 (Nat.le_of_eq e7.symm)
  have E_o0 := E_o0.ext E7
  have F_o0_operands := F_o0_operands.ext E7
  have F_o0_command := F_o0_command.ext E7
  have F_o0_usage := F_o0_usage.ext E7
  have F_o0_arguments := F_o0_arguments.ext E7
  have F_o0_maxOperands := F_o0_maxOperands.ext E7
  have F_o0_next := F_o0_next.ext E7
  have S_DEFAULTCAPACITY_EMPTY_ELEMENTDATA := S_DEFAULTCAPACITY_EMPTY_ELEMENTDATA.ext E7
  have E_o3 := E_o3.ext E7
  have V_o3 := V_o3.ext E7
  have E_b2 := E_b2.ext E7
  have KP := KP.ext E7
  refine C7.castY (hw _ (List.mem_of_getElem? (i := 80) rfl)) (Ins.self E_b7) d7_30 rfl (fun T8 C8 => ?_)
  refine C8.putF (host := "") (Or.inl (hw _ (List.mem_of_getElem? (i := 82) rfl))) Via.refl F_o0_arguments E_o0 (Or.inr ⟨(hw _ (List.mem_of_getElem? (i := 83) rfl)), rfl, rfl⟩) (hw _ (List.mem_of_getElem? (i := 33) rfl)) (ty := (.array (.object "java/lang/String"))) (by decide) rfl rfl g_o0 d7_33 rfl (fun T9 h9 C9 W9 => ?_)
  have E_o0 := E_o0.wr W9
  have F_o0_operands := F_o0_operands.other W9 (Or.inr (slot_ne (Or.inr (hw _ (List.mem_of_getElem? (i := 68) rfl))) (Or.inr (hw _ (List.mem_of_getElem? (i := 83) rfl))) (by decide) (t := (.object "java/util/List")) (t' := (.array (.object "java/lang/String"))) (by decide) (by decide)))
  have F_o0_command := F_o0_command.other W9 (Or.inr (slot_ne (Or.inr (hw _ (List.mem_of_getElem? (i := 70) rfl))) (Or.inr (hw _ (List.mem_of_getElem? (i := 83) rfl))) (by decide) (t := (.object "java/lang/String")) (t' := (.array (.object "java/lang/String"))) (by decide) (by decide)))
  have F_o0_usage := F_o0_usage.other W9 (Or.inr (slot_ne (Or.inr (hw _ (List.mem_of_getElem? (i := 72) rfl))) (Or.inr (hw _ (List.mem_of_getElem? (i := 83) rfl))) (by decide) (t := (.object "java/lang/String")) (t' := (.array (.object "java/lang/String"))) (by decide) (by decide)))
  have F_o0_maxOperands := F_o0_maxOperands.other W9 (Or.inr (slot_ne (Or.inr (hw _ (List.mem_of_getElem? (i := 85) rfl))) (Or.inr (hw _ (List.mem_of_getElem? (i := 83) rfl))) (by decide) (t := .int) (t' := (.array (.object "java/lang/String"))) (by decide) (by decide)))
  have F_o0_next := F_o0_next.other W9 (Or.inr (slot_ne (Or.inl (hw _ (List.mem_of_getElem? (i := 92) rfl))) (Or.inr (hw _ (List.mem_of_getElem? (i := 83) rfl))) (by decide) (t := .int) (t' := (.array (.object "java/lang/String"))) (by decide) (by decide)))
  have S_DEFAULTCAPACITY_EMPTY_ELEMENTDATA := S_DEFAULTCAPACITY_EMPTY_ELEMENTDATA.wr W9
  have E_o3 := E_o3.wr W9
  have V_o3 := V_o3.other W9 ne_o3_o0
  have E_b2 := E_b2.wr W9
  have V_b7 := V_b7.other W9 (Ne.symm ne_o0_b7)
  have E_b7 := E_b7.wr W9
  have KP := KP.wr W9 (Or.inl (by simp))
  have F_o0_arguments := F_o0_arguments.same W9
  refine C9.aloadN d7_36 rfl rfl rfl ?_
  refine C9.iload d7_37 rfl rfl ?_
  refine C9.putF (host := "") (Or.inl (hw _ (List.mem_of_getElem? (i := 84) rfl))) Via.refl F_o0_maxOperands E_o0 (Or.inr ⟨(hw _ (List.mem_of_getElem? (i := 85) rfl)), rfl, rfl⟩) (hw _ (List.mem_of_getElem? (i := 33) rfl)) (ty := .int) (by decide) rfl rfl g_o0 d7_39 rfl (fun T10 h10 C10 W10 => ?_)
  have E_o0 := E_o0.wr W10
  have F_o0_operands := F_o0_operands.other W10 (Or.inr (slot_ne (Or.inr (hw _ (List.mem_of_getElem? (i := 68) rfl))) (Or.inr (hw _ (List.mem_of_getElem? (i := 85) rfl))) (by decide) (t := (.object "java/util/List")) (t' := .int) (by decide) (by decide)))
  have F_o0_command := F_o0_command.other W10 (Or.inr (slot_ne (Or.inr (hw _ (List.mem_of_getElem? (i := 70) rfl))) (Or.inr (hw _ (List.mem_of_getElem? (i := 85) rfl))) (by decide) (t := (.object "java/lang/String")) (t' := .int) (by decide) (by decide)))
  have F_o0_usage := F_o0_usage.other W10 (Or.inr (slot_ne (Or.inr (hw _ (List.mem_of_getElem? (i := 72) rfl))) (Or.inr (hw _ (List.mem_of_getElem? (i := 85) rfl))) (by decide) (t := (.object "java/lang/String")) (t' := .int) (by decide) (by decide)))
  have F_o0_arguments := F_o0_arguments.other W10 (Or.inr (slot_ne (Or.inr (hw _ (List.mem_of_getElem? (i := 83) rfl))) (Or.inr (hw _ (List.mem_of_getElem? (i := 85) rfl))) (by decide) (t := (.array (.object "java/lang/String"))) (t' := .int) (by decide) (by decide)))
  have F_o0_next := F_o0_next.other W10 (Or.inr (slot_ne (Or.inl (hw _ (List.mem_of_getElem? (i := 92) rfl))) (Or.inr (hw _ (List.mem_of_getElem? (i := 85) rfl))) (by decide) (t := .int) (t' := .int) (by decide) (by decide)))
  have S_DEFAULTCAPACITY_EMPTY_ELEMENTDATA := S_DEFAULTCAPACITY_EMPTY_ELEMENTDATA.wr W10
  have E_o3 := E_o3.wr W10
  have V_o3 := V_o3.other W10 ne_o3_o0
  have E_b2 := E_b2.wr W10
  have V_b7 := V_b7.other W10 (Ne.symm ne_o0_b7)
  have E_b7 := E_b7.wr W10
  have KP := KP.wr W10 (Or.inl (by simp))
  have F_o0_maxOperands := F_o0_maxOperands.same W10
  exact C10.retV d7_42 rfl (by decide) (by decide) ⟨b7, rfl, KP, E_o0, F_o0_arguments, F_o0_next, E_b7, V_b7, g_b7⟩
def f11 (y0 : Int32) (n1 : Int32) : Int32 := if y0 < n1 then (1 : Int32) else ((0 : Int32))
theorem pn11 : plainName "com/example/bouncer/bouncer/cli/Arguments" = true := by first | (simp [plainName, overriddenIn]; done) | decide +kernel
theorem pd11 : parseMethodDescriptor "()Z" = some ⟨[], some .boolean⟩ := by decide +kernel
theorem ef11 (m : MethodId) (o0 : Addr) : entryFrame m #[(.ref o0)] 1 = mkF m 0 #[.val (.ref o0)] [] := by first | (simp [entryFrame, mkF, argsToLocals, Value.category]; done) | rfl
theorem d11_0 : decode prog_26_method_2_code 0 = .ok (.aload_n 0, 1) := by decide +kernel
theorem d11_1 : decode prog_26_method_2_code 1 = .ok (.getfield 36, 3) := by decide +kernel
theorem d11_4 : decode prog_26_method_2_code 4 = .ok (.aload_n 0, 1) := by decide +kernel
theorem d11_5 : decode prog_26_method_2_code 5 = .ok (.getfield 29, 3) := by decide +kernel
theorem d11_8 : decode prog_26_method_2_code 8 = .ok (.arraylength, 1) := by decide +kernel
theorem d11_9 : decode prog_26_method_2_code 9 = .ok (.if_icmp .ge 7, 3) := by decide +kernel
theorem d11_12 : decode prog_26_method_2_code 12 = .ok (.iconst 1, 1) := by decide +kernel
theorem d11_13 : decode prog_26_method_2_code 13 = .ok (.goto 4, 3) := by decide +kernel
theorem d11_16 : decode prog_26_method_2_code 16 = .ok (.iconst 0, 1) := by decide +kernel
theorem d11_17 : decode prog_26_method_2_code 17 = .ok (.ireturn, 1) := by decide +kernel
set_option maxRecDepth 65536 in
set_option maxHeartbeats 40000000 in
theorem rm11 (l : Launch) (Z : State) (a0 : Array Value) (hw : ∀ d ∈ tables_1, d.before a0 Z = true) (o0 : Addr) (a1 : Addr) (y0 : Int32) (k1 : ClassId) (n1 : Int32) (vs : List Value) (dv : Value) (h0 : Heap) (n0 : Nat) (Z0 : n0 ≤ h0.size) (F_o0_arguments : Fld Z h0 o0 "com/example/bouncer/bouncer/cli/Arguments" "arguments" "[Ljava/lang/String;" (.ref a1)) (F_o0_next : Fld Z h0 o0 "com/example/bouncer/bouncer/cli/Arguments" "next" "I" (.int y0)) (V_a1 : Arv Z h0 a1 k1 (.object "java/lang/String") n1 vs dv) :
    Ctr l Z (⟨"com/example/bouncer/bouncer/cli/Arguments", "hasNext", "()Z"⟩ : MethodName) prog_26_method_2_code 1 (some .boolean) ({ frames := 0, cells := 0, slots := 0, locals := 0 } : Room) #[(.ref o0)] h0 n0 (fun v h' => v = some (.int (f11 y0 n1)) ∧ h' = h0) := by
  refine Ctr.body (L := #[.val (.ref o0)]) (plainFor_of_name pn11) Z0 (fun m => ef11 m o0) ?_
  intro p e F m below meth c T0 C0
  refine C0.aloadN d11_0 rfl rfl rfl ?_
  refine C0.getF (host := "") (Or.inl (hw _ (List.mem_of_getElem? (i := 91) rfl))) Via.refl F_o0_next d11_1 rfl (fun T1 C1 => ?_)
  refine C1.aloadN d11_4 rfl rfl rfl ?_
  refine C1.getF (host := "") (Or.inl (hw _ (List.mem_of_getElem? (i := 82) rfl))) Via.refl F_o0_arguments d11_5 rfl (fun T2 C2 => ?_)
  refine C2.arrlen V_a1 d11_8 rfl ?_
  refine C2.icmp_ge d11_9 (by decide) (by decide : _ = 16) rfl (fun c9 => ?_) (fun c9 => ?_)
  · refine C2.iconst (0 : Int32) d11_16 rfl rfl ?_
    exact C2.retN (t := .boolean) d11_17 rfl (by simp) (by decide) (by decide) (w := (0 : Int32)) rfl ⟨by rw [f11, if_neg c9], rfl⟩
  · refine C2.iconst (1 : Int32) d11_12 rfl rfl ?_
    refine C2.goto d11_13 (by decide) (by decide : _ = 17) ?_
    exact C2.retN (t := .boolean) d11_17 rfl (by simp) (by decide) (by decide) (w := (1 : Int32)) rfl ⟨by rw [f11, if_pos c9], rfl⟩
theorem pn12 : plainName "com/example/bouncer/bouncer/cli/Arguments" = true := by first | (simp [plainName, overriddenIn]; done) | decide +kernel
theorem pd12 : parseMethodDescriptor "()Ljava/lang/String;" = some ⟨[], some (.object "java/lang/String")⟩ := by decide +kernel
theorem ef12 (m : MethodId) (o0 : Addr) : entryFrame m #[(.ref o0)] 1 = mkF m 0 #[.val (.ref o0)] [] := by first | (simp [entryFrame, mkF, argsToLocals, Value.category]; done) | rfl
theorem d12_0 : decode prog_26_method_3_code 0 = .ok (.aload_n 0, 1) := by decide +kernel
theorem d12_1 : decode prog_26_method_3_code 1 = .ok (.getfield 29, 3) := by decide +kernel
theorem d12_4 : decode prog_26_method_3_code 4 = .ok (.aload_n 0, 1) := by decide +kernel
theorem d12_5 : decode prog_26_method_3_code 5 = .ok (.dup, 1) := by decide +kernel
theorem d12_6 : decode prog_26_method_3_code 6 = .ok (.getfield 36, 3) := by decide +kernel
theorem d12_9 : decode prog_26_method_3_code 9 = .ok (.dup_x1, 1) := by decide +kernel
theorem d12_10 : decode prog_26_method_3_code 10 = .ok (.iconst 1, 1) := by decide +kernel
theorem d12_11 : decode prog_26_method_3_code 11 = .ok (.iadd, 1) := by decide +kernel
theorem d12_12 : decode prog_26_method_3_code 12 = .ok (.putfield 36, 3) := by decide +kernel
theorem d12_15 : decode prog_26_method_3_code 15 = .ok (.aaload, 1) := by decide +kernel
theorem d12_16 : decode prog_26_method_3_code 16 = .ok (.areturn, 1) := by decide +kernel
set_option maxRecDepth 65536 in
set_option maxHeartbeats 40000000 in
theorem rm12 (l : Launch) (Z : State) (a0 : Array Value) (hw : ∀ d ∈ tables_1, d.before a0 Z = true) (o0 : Addr) (a1 : Addr) (y0 : Int32) (k1 : ClassId) (n1 : Int32) (vs : List Value) (dv : Value) (h0 : Heap) (n0 : Nat) (Z0 : n0 ≤ h0.size) (E_o0 : Exa Z h0 o0 "com/example/bouncer/bouncer/cli/Arguments") (F_o0_arguments : Fld Z h0 o0 "com/example/bouncer/bouncer/cli/Arguments" "arguments" "[Ljava/lang/String;" (.ref a1)) (F_o0_next : Fld Z h0 o0 "com/example/bouncer/bouncer/cli/Arguments" "next" "I" (.int y0)) (V_a1 : Arv Z h0 a1 k1 (.object "java/lang/String") n1 vs dv) (E_a1 : Exa Z h0 a1 "[Ljava/lang/String;") (g_o0 : n0 ≤ o0) (hin : ¬ y0 < (0 : Int32) ∧ y0 < n1) (hr : (∀ j, (vs.getD j dv).isRef = true)) :
    Ctr l Z (⟨"com/example/bouncer/bouncer/cli/Arguments", "next", "()Ljava/lang/String;"⟩ : MethodName) prog_26_method_3_code 1 (some (.object "java/lang/String")) ({ frames := 0, cells := 0, slots := 0, locals := 0 } : Room) #[(.ref o0)] h0 n0 (fun v h' => v = some (vs.getD (y0).toNatClampNeg dv) ∧ Keep h0 h' [o0] ∧ Exa Z h' o0 "com/example/bouncer/bouncer/cli/Arguments" ∧ Fld Z h' o0 "com/example/bouncer/bouncer/cli/Arguments" "arguments" "[Ljava/lang/String;" (.ref a1) ∧ Fld Z h' o0 "com/example/bouncer/bouncer/cli/Arguments" "next" "I" (.int (y0 + (1 : Int32)))) := by
  refine Ctr.body (L := #[.val (.ref o0)]) (plainFor_of_name pn12) Z0 (fun m => ef12 m o0) ?_
  intro p e F m below meth c T0 C0
  have KP : Keep h0 h0 [o0] := Keep.refl h0 _
  refine C0.aloadN d12_0 rfl rfl rfl ?_
  refine C0.getF (host := "") (Or.inl (hw _ (List.mem_of_getElem? (i := 82) rfl))) Via.refl F_o0_arguments d12_1 rfl (fun T1 C1 => ?_)
  refine C1.aloadN d12_4 rfl rfl rfl ?_
  refine C1.dup d12_5 rfl rfl ?_
  refine C1.getF (host := "") (Or.inl (hw _ (List.mem_of_getElem? (i := 91) rfl))) Via.refl F_o0_next d12_6 rfl (fun T2 C2 => ?_)
  refine C2.dupX1 d12_9 rfl rfl rfl ?_
  refine C2.iconst (1 : Int32) d12_10 rfl rfl ?_
  refine C2.iadd d12_11 rfl ?_
  refine C2.putF (host := "") (Or.inl (hw _ (List.mem_of_getElem? (i := 91) rfl))) Via.refl F_o0_next E_o0 (Or.inl (hw _ (List.mem_of_getElem? (i := 92) rfl))) (hw _ (List.mem_of_getElem? (i := 33) rfl)) (ty := .int) (by decide) rfl rfl g_o0 d12_12 rfl (fun T3 h3 C3 W3 => ?_)
  have ne_a1_o0 : a1 ≠ o0 := (ne_exa E_a1 E_o0 (by decide))
  have E_o0 := E_o0.wr W3
  have F_o0_arguments := F_o0_arguments.other W3 (Or.inr (slot_ne (Or.inr (hw _ (List.mem_of_getElem? (i := 83) rfl))) (Or.inl (hw _ (List.mem_of_getElem? (i := 92) rfl))) (by decide) (t := (.array (.object "java/lang/String"))) (t' := .int) (by decide) (by decide)))
  have V_a1 := V_a1.other W3 ne_a1_o0
  have E_a1 := E_a1.wr W3
  have KP := KP.wr W3 (Or.inl (by simp))
  have F_o0_next := F_o0_next.same W3
  refine C3.aaload (v := (vs.getD (y0).toNatClampNeg dv)) V_a1 hin rfl d12_15 rfl ?_
  exact C3.retA d12_16 rfl rfl (hr _) (by decide) (by decide) ⟨rfl, KP, E_o0, F_o0_arguments, F_o0_next⟩

theorem pn0 : plainName "com/example/bouncer/bouncer/cli/ArgumentsHasNextPinLaw" = true := by first | (simp [plainName, overriddenIn]; done) | decide +kernel
theorem ef0 (m : MethodId) (i0 : Int32) (i1 : Int32) (i2 : Int32) (i3 : Int32) : entryFrame m #[(.int i0), (.int i1), (.int i2), (.int i3)] maxLocals = mkF m 0 #[.val (.int i0), .val (.int i1), .val (.int i2), .val (.int i3), .unset, .unset, .unset, .unset, .unset, .unset] [] := by first | (simp [entryFrame, mkF, argsToLocals, Value.category, maxLocals]; done) | rfl
set_option maxRecDepth 65536 in
set_option maxHeartbeats 40000000 in
theorem rm0 (l : Launch) (Z : State) (a0 : Array Value) (hw : ∀ d ∈ tables_1, d.before a0 Z = true) (i0 : Int32) (i1 : Int32) (i2 : Int32) (i3 : Int32) (cs : Int32) (de : Addr) (h0 : Heap) (n0 : Nat) (Z0 : n0 ≤ h0.size) (S_COMPACT_STRINGS : Sta Z h0 "java/lang/String" "COMPACT_STRINGS" "Z" (.int cs)) (hcs : ¬ cs = (0 : Int32)) (S_DEFAULTCAPACITY_EMPTY_ELEMENTDATA : Sta Z h0 "java/util/ArrayList" "DEFAULTCAPACITY_EMPTY_ELEMENTDATA" "[Ljava/lang/Object;" (.ref de)) :
    CtrW l Z x code maxLocals ret room_1 #[(.int i0), (.int i1), (.int i2), (.int i3)] h0 n0 (fun v _ => v = some (.int (1 : Int32))) := by
  refine CtrW.body (L := #[.val (.int i0), .val (.int i1), .val (.int i2), .val (.int i3), .unset, .unset, .unset, .unset, .unset, .unset]) (plainFor_of_name pn0) Z0 (fun m => ef0 m i0 i1 i2 i3) ?_
  intro p e F m below meth c T0 C0
  refine C0.iloadN at_0 rfl rfl ?_
  refine C0.iconst (3 : Int32) at_1 rfl rfl ?_
  refine C0.iand at_2 rfl ?_
  refine C0.istoreV (fun v => #[.val (.int i0), .val (.int i1), .val (.int i2), .val (.int i3), .val (.int v), .unset, .unset, .unset, .unset, .unset]) at_3 rfl (fun _ => rfl) (fun v1 hv1 => ?_)
  refine C0.iloadN at_5 rfl rfl ?_
  refine C0.iconst (3 : Int32) at_6 rfl rfl ?_
  refine C0.iand at_7 rfl ?_
  refine C0.istoreV (fun v => #[.val (.int i0), .val (.int i1), .val (.int i2), .val (.int i3), .val (.int v1), .val (.int v), .unset, .unset, .unset, .unset]) at_8 rfl (fun _ => rfl) (fun v2 hv2 => ?_)
  rcases own_c4 hv1 with e | e | e | e
  · subst e
    rcases own_c4 hv2 with e | e | e | e
    · subst e
      refine C0.iload at_10 rfl rfl ?_
      refine C0.iloadN at_12 rfl rfl ?_
      refine C0.callS (hw _ (List.mem_of_getElem? (i := 0) rfl)) (hw _ (List.mem_of_getElem? (i := 1) rfl)) (hw _ (List.mem_of_getElem? (i := 2) rfl)) (hw _ (List.mem_of_getElem? (i := 3) rfl)) (by decide) (rm1 l Z a0 hw (0 : Int32) i2 cs h0 n0 C0.size S_COMPACT_STRINGS hcs (Or.inl rfl)) (argsL := [(.int (0 : Int32)), (.int i2)]) pd1 rfl 0 (by decide) (by decide) (by decide) (by decide) (rest := []) rfl rfl (Nat.le_of_eq rfl) at_13 rfl (fun v3 T3 h3 C3 qq3 => ?_)
      obtain ⟨bo3, ko3, vs3, rfl, K3, p3_0, p3_1, p3_2, p3_3⟩ := qq3
      have K3 := ext_keep K3
      have S_COMPACT_STRINGS := S_COMPACT_STRINGS.ext K3
      have S_DEFAULTCAPACITY_EMPTY_ELEMENTDATA := S_DEFAULTCAPACITY_EMPTY_ELEMENTDATA.ext K3
      have E_bo3 := p3_0
      have V_bo3 := p3_1
      have hr := p3_2
      have g_bo3 := p3_3
      show Go p e below F n0 (fun v _ => v = some (.int (1 : Int32))) T3 (mkF m 16 #[.val (.int i0), .val (.int i1), .val (.int i2), .val (.int i3), .val (.int (0 : Int32)), .val (.int (0 : Int32)), .unset, .unset, .unset, .unset] [(.ref bo3)])
      refine C3.astore at_16 rfl rfl (L' := #[.val (.int i0), .val (.int i1), .val (.int i2), .val (.int i3), .val (.int (0 : Int32)), .val (.int (0 : Int32)), .val (.ref bo3), .unset, .unset, .unset]) rfl ?_
      refine C3.new (hw _ (List.mem_of_getElem? (i := 32) rfl)) (hw _ (List.mem_of_getElem? (i := 33) rfl)) (hw _ (List.mem_of_getElem? (i := 34) rfl)) at_18 rfl (by decide) (by decide) (fun T4 h4 b4 C4 e4 g_b4 E4 E_b4 D4 => ?_)
      have ne_bo3_b4 : bo3 ≠ b4 := Nat.ne_of_lt (Nat.lt_of_lt_of_eq E_bo3.lt e4.symm)
      have S_COMPACT_STRINGS := S_COMPACT_STRINGS.ext E4
      have S_DEFAULTCAPACITY_EMPTY_ELEMENTDATA := S_DEFAULTCAPACITY_EMPTY_ELEMENTDATA.ext E4
      have E_bo3 := E_bo3.ext E4
      have V_bo3 := V_bo3.ext E4
      have F_b4_operands : Fld Z h4 b4 "com/example/bouncer/bouncer/cli/Arguments" "operands" "Ljava/util/List;" .null := D4 (Or.inr (hw _ (List.mem_of_getElem? (i := 68) rfl))) (ty := (.object "java/util/List")) (by decide)
      have F_b4_command : Fld Z h4 b4 "com/example/bouncer/bouncer/cli/Arguments" "command" "Ljava/lang/String;" .null := D4 (Or.inr (hw _ (List.mem_of_getElem? (i := 70) rfl))) (ty := (.object "java/lang/String")) (by decide)
      have F_b4_usage : Fld Z h4 b4 "com/example/bouncer/bouncer/cli/Arguments" "usage" "Ljava/lang/String;" .null := D4 (Or.inr (hw _ (List.mem_of_getElem? (i := 72) rfl))) (ty := (.object "java/lang/String")) (by decide)
      have F_b4_arguments : Fld Z h4 b4 "com/example/bouncer/bouncer/cli/Arguments" "arguments" "[Ljava/lang/String;" .null := D4 (Or.inr (hw _ (List.mem_of_getElem? (i := 83) rfl))) (ty := (.array (.object "java/lang/String"))) (by decide)
      have F_b4_maxOperands : Fld Z h4 b4 "com/example/bouncer/bouncer/cli/Arguments" "maxOperands" "I" (.int (0 : Int32)) := D4 (Or.inr (hw _ (List.mem_of_getElem? (i := 85) rfl))) (ty := .int) (by decide)
      have F_b4_next : Fld Z h4 b4 "com/example/bouncer/bouncer/cli/Arguments" "next" "I" (.int (0 : Int32)) := D4 (Or.inl (hw _ (List.mem_of_getElem? (i := 92) rfl))) (ty := .int) (by decide)
      refine C4.dup at_21 rfl rfl ?_
      refine C4.ldcStr (hw _ (List.mem_of_getElem? (i := 35) rfl)) (own_wS hw) 4 (by decide) (by decide) (by decide) (by decide) at_22 rfl (fun s5 T5 h5 C5 E5 => ?_)
      have S_COMPACT_STRINGS := S_COMPACT_STRINGS.ext E5
      have S_DEFAULTCAPACITY_EMPTY_ELEMENTDATA := S_DEFAULTCAPACITY_EMPTY_ELEMENTDATA.ext E5
      have E_bo3 := E_bo3.ext E5
      have V_bo3 := V_bo3.ext E5
      have E_b4 := E_b4.ext E5
      have F_b4_operands := F_b4_operands.ext E5
      have F_b4_command := F_b4_command.ext E5
      have F_b4_usage := F_b4_usage.ext E5
      have F_b4_arguments := F_b4_arguments.ext E5
      have F_b4_maxOperands := F_b4_maxOperands.ext E5
      have F_b4_next := F_b4_next.ext E5
      refine C5.ldcStr (hw _ (List.mem_of_getElem? (i := 38) rfl)) (own_wS hw) 4 (by decide) (by decide) (by decide) (by decide) at_24 rfl (fun s6 T6 h6 C6 E6 => ?_)
      have S_COMPACT_STRINGS := S_COMPACT_STRINGS.ext E6
      have S_DEFAULTCAPACITY_EMPTY_ELEMENTDATA := S_DEFAULTCAPACITY_EMPTY_ELEMENTDATA.ext E6
      have E_bo3 := E_bo3.ext E6
      have V_bo3 := V_bo3.ext E6
      have E_b4 := E_b4.ext E6
      have F_b4_operands := F_b4_operands.ext E6
      have F_b4_command := F_b4_command.ext E6
      have F_b4_usage := F_b4_usage.ext E6
      have F_b4_arguments := F_b4_arguments.ext E6
      have F_b4_maxOperands := F_b4_maxOperands.ext E6
      have F_b4_next := F_b4_next.ext E6
      refine C6.aload at_26 rfl rfl rfl ?_
      refine C6.iloadN at_28 rfl rfl ?_
      refine C6.callN rfl (hw _ (List.mem_of_getElem? (i := 39) rfl)) (hw _ (List.mem_of_getElem? (i := 40) rfl)) (hw _ (List.mem_of_getElem? (i := 34) rfl)) (hw _ (List.mem_of_getElem? (i := 41) rfl)) (by decide) (a := b4) (rm7 l Z a0 hw b4 s5 s6 bo3 i3 de .null .null .null .null (.int (0 : Int32)) ko3 (0 : Int32) vs3 .null h6 n0 C6.size E_b4 F_b4_operands F_b4_command F_b4_usage F_b4_arguments F_b4_maxOperands F_b4_next g_b4 S_DEFAULTCAPACITY_EMPTY_ELEMENTDATA E_bo3 V_bo3 (by decide)) (argsL := [(.ref s5), (.ref s6), (.ref bo3), (.int i3)]) pd7 rfl 1 (by decide) (by decide) (by decide) (by decide) (rest := [(.ref b4)]) rfl rfl (Nat.le_of_eq rfl) at_29 rfl (fun v7 T7 h7 C7 qq7 => ?_)
      obtain ⟨bc7, rfl, K7, p7_0, p7_1, p7_2, p7_3, p7_4, p7_5⟩ := qq7
      have S_COMPACT_STRINGS := own_stak S_COMPACT_STRINGS K7 (allS (own_plainE E_b4) (all0))
      have S_DEFAULTCAPACITY_EMPTY_ELEMENTDATA := own_stak S_DEFAULTCAPACITY_EMPTY_ELEMENTDATA K7 (allS (own_plainE E_b4) (all0))
      have E_bo3 := E_bo3.keep K7
      have V_bo3 := V_bo3.keep K7 (ninS ne_bo3_b4 nin0)
      have E_b4 := E_b4.keep K7
      have E_b4 := p7_0
      have F_b4_arguments := p7_1
      have F_b4_next := p7_2
      have E_bc7 := p7_3
      have V_bc7 := p7_4
      have g_bc7 := p7_5
      show Go p e below F n0 (fun v _ => v = some (.int (1 : Int32))) T7 (mkF m 32 #[.val (.int i0), .val (.int i1), .val (.int i2), .val (.int i3), .val (.int (0 : Int32)), .val (.int (0 : Int32)), .val (.ref bo3), .unset, .unset, .unset] [(.ref b4)])
      refine C7.astore at_32 rfl rfl (L' := #[.val (.int i0), .val (.int i1), .val (.int i2), .val (.int i3), .val (.int (0 : Int32)), .val (.int (0 : Int32)), .val (.ref bo3), .val (.ref b4), .unset, .unset]) rfl ?_
      refine C7.iconst (1 : Int32) at_34 rfl rfl ?_
      refine C7.istore at_35 rfl (L' := #[.val (.int i0), .val (.int i1), .val (.int i2), .val (.int i3), .val (.int (0 : Int32)), .val (.int (0 : Int32)), .val (.ref bo3), .val (.ref b4), .val (.int (1 : Int32)), .unset]) rfl ?_
      refine C7.iconst (0 : Int32) at_37 rfl rfl ?_
      refine C7.istore at_38 rfl (L' := #[.val (.int i0), .val (.int i1), .val (.int i2), .val (.int i3), .val (.int (0 : Int32)), .val (.int (0 : Int32)), .val (.ref bo3), .val (.ref b4), .val (.int (1 : Int32)), .val (.int (0 : Int32))]) rfl ?_
      refine C7.iload at_40 rfl rfl ?_
      refine C7.aload at_42 rfl rfl rfl ?_
      refine C7.callV (hw _ (List.mem_of_getElem? (i := 86) rfl)) (hw _ (List.mem_of_getElem? (i := 87) rfl)) (hw _ (List.mem_of_getElem? (i := 89) rfl)) (hw _ (List.mem_of_getElem? (i := 88) rfl)) (hw _ (List.mem_of_getElem? (i := 34) rfl)) (hw _ (List.mem_of_getElem? (i := 90) rfl)) E_b4 (by decide) (a := b4) (rm11 l Z a0 hw b4 bc7 (0 : Int32) ko3 (0 : Int32) vs3 .null h7 n0 C7.size F_b4_arguments F_b4_next V_bc7) (argsL := []) pd11 rfl 1 (by decide) (by decide) (by decide) (by decide) (rest := [(.int (1 : Int32))]) rfl rfl (Nat.le_of_eq rfl) at_44 rfl (fun v8 T8 h8 C8 qq8 => ?_)
      obtain ⟨rfl, hh8⟩ := qq8
      have hh8 := hh8.symm; subst hh8
      show Go p e below F n0 (fun v _ => v = some (.int (1 : Int32))) T8 (mkF m 47 #[.val (.int i0), .val (.int i1), .val (.int i2), .val (.int i3), .val (.int (0 : Int32)), .val (.int (0 : Int32)), .val (.ref bo3), .val (.ref b4), .val (.int (1 : Int32)), .val (.int (0 : Int32))] [(.int (f11 (0 : Int32) (0 : Int32))), (.int (1 : Int32))])
      refine C8.iload at_47 rfl rfl ?_
      refine C8.iload at_49 rfl rfl ?_
      refine C8.icmp_ge at_51 (by decide) (by decide : _ = 58) rfl (fun _ => ?_) (fun q => absurd q (by decide))
      refine C8.iconst (0 : Int32) at_58 rfl rfl ?_
      refine C8.icmp_ne at_59 (by decide) (by decide : _ = 66) rfl (fun q => absurd (by decide) q) (fun _ => ?_)
      refine C8.iconst (1 : Int32) at_62 rfl rfl ?_
      refine C8.goto at_63 (by decide) (by decide : _ = 67) ?_
      refine C8.iand at_67 rfl ?_
      rw [own_and11]
      refine C8.istore at_68 rfl (L' := #[.val (.int i0), .val (.int i1), .val (.int i2), .val (.int i3), .val (.int (0 : Int32)), .val (.int (0 : Int32)), .val (.ref bo3), .val (.ref b4), .val (.int (1 : Int32)), .val (.int (0 : Int32))]) rfl ?_
      refine C8.iload at_70 rfl rfl ?_
      refine C8.iconst (1 : Int32) at_72 rfl rfl ?_
      refine C8.icmp_lt at_73 (by decide) (by decide : _ = 91) rfl (fun _ => ?_) (fun q => absurd (by decide) q)
      refine C8.iload at_91 rfl rfl ?_
      refine C8.aload at_93 rfl rfl rfl ?_
      refine C8.callV (hw _ (List.mem_of_getElem? (i := 86) rfl)) (hw _ (List.mem_of_getElem? (i := 87) rfl)) (hw _ (List.mem_of_getElem? (i := 89) rfl)) (hw _ (List.mem_of_getElem? (i := 88) rfl)) (hw _ (List.mem_of_getElem? (i := 34) rfl)) (hw _ (List.mem_of_getElem? (i := 90) rfl)) E_b4 (by decide) (a := b4) (rm11 l Z a0 hw b4 bc7 (0 : Int32) ko3 (0 : Int32) vs3 .null h7 n0 C8.size F_b4_arguments F_b4_next V_bc7) (argsL := []) pd11 rfl 1 (by decide) (by decide) (by decide) (by decide) (rest := [(.int (1 : Int32))]) rfl rfl (Nat.le_of_eq rfl) at_95 rfl (fun v9 T9 h9 C9 qq9 => ?_)
      obtain ⟨rfl, hh9⟩ := qq9
      have hh9 := hh9.symm; subst hh9
      show Go p e below F n0 (fun v _ => v = some (.int (1 : Int32))) T9 (mkF m 98 #[.val (.int i0), .val (.int i1), .val (.int i2), .val (.int i3), .val (.int (0 : Int32)), .val (.int (0 : Int32)), .val (.ref bo3), .val (.ref b4), .val (.int (1 : Int32)), .val (.int (0 : Int32))] [(.int (f11 (0 : Int32) (0 : Int32))), (.int (1 : Int32))])
      refine C9.iload at_98 rfl rfl ?_
      refine C9.iload at_100 rfl rfl ?_
      refine C9.icmp_ge at_102 (by decide) (by decide : _ = 109) rfl (fun _ => ?_) (fun q => absurd q (by decide))
      refine C9.iconst (0 : Int32) at_109 rfl rfl ?_
      refine C9.icmp_ne at_110 (by decide) (by decide : _ = 117) rfl (fun q => absurd (by decide) q) (fun _ => ?_)
      refine C9.iconst (1 : Int32) at_113 rfl rfl ?_
      refine C9.goto at_114 (by decide) (by decide : _ = 118) ?_
      refine C9.iand at_118 rfl ?_
      rw [own_and11]
      refine C9.istore at_119 rfl (L' := #[.val (.int i0), .val (.int i1), .val (.int i2), .val (.int i3), .val (.int (0 : Int32)), .val (.int (0 : Int32)), .val (.ref bo3), .val (.ref b4), .val (.int (1 : Int32)), .val (.int (0 : Int32))]) rfl ?_
      refine C9.iload at_121 rfl rfl ?_
      refine C9.aload at_123 rfl rfl rfl ?_
      refine C9.callV (hw _ (List.mem_of_getElem? (i := 86) rfl)) (hw _ (List.mem_of_getElem? (i := 87) rfl)) (hw _ (List.mem_of_getElem? (i := 89) rfl)) (hw _ (List.mem_of_getElem? (i := 88) rfl)) (hw _ (List.mem_of_getElem? (i := 34) rfl)) (hw _ (List.mem_of_getElem? (i := 90) rfl)) E_b4 (by decide) (a := b4) (rm11 l Z a0 hw b4 bc7 (0 : Int32) ko3 (0 : Int32) vs3 .null h7 n0 C9.size F_b4_arguments F_b4_next V_bc7) (argsL := []) pd11 rfl 1 (by decide) (by decide) (by decide) (by decide) (rest := [(.int (1 : Int32))]) rfl rfl (Nat.le_of_eq rfl) at_125 rfl (fun v10 T10 h10 C10 qq10 => ?_)
      obtain ⟨rfl, hh10⟩ := qq10
      have hh10 := hh10.symm; subst hh10
      show Go p e below F n0 (fun v _ => v = some (.int (1 : Int32))) T10 (mkF m 128 #[.val (.int i0), .val (.int i1), .val (.int i2), .val (.int i3), .val (.int (0 : Int32)), .val (.int (0 : Int32)), .val (.ref bo3), .val (.ref b4), .val (.int (1 : Int32)), .val (.int (0 : Int32))] [(.int (f11 (0 : Int32) (0 : Int32))), (.int (1 : Int32))])
      refine C10.iload at_128 rfl rfl ?_
      refine C10.iload at_130 rfl rfl ?_
      refine C10.icmp_ge at_132 (by decide) (by decide : _ = 139) rfl (fun _ => ?_) (fun q => absurd q (by decide))
      refine C10.iconst (0 : Int32) at_139 rfl rfl ?_
      refine C10.icmp_ne at_140 (by decide) (by decide : _ = 147) rfl (fun q => absurd (by decide) q) (fun _ => ?_)
      refine C10.iconst (1 : Int32) at_143 rfl rfl ?_
      refine C10.goto at_144 (by decide) (by decide : _ = 148) ?_
      refine C10.iand at_148 rfl ?_
      rw [own_and11]
      refine C10.istore at_149 rfl (L' := #[.val (.int i0), .val (.int i1), .val (.int i2), .val (.int i3), .val (.int (0 : Int32)), .val (.int (0 : Int32)), .val (.ref bo3), .val (.ref b4), .val (.int (1 : Int32)), .val (.int (0 : Int32))]) rfl ?_
      refine C10.iload at_151 rfl rfl ?_
      refine C10.iconst (2 : Int32) at_153 rfl rfl ?_
      refine C10.icmp_lt at_154 (by decide) (by decide : _ = 172) rfl (fun _ => ?_) (fun q => absurd (by decide) q)
      refine C10.iload at_172 rfl rfl ?_
      refine C10.aload at_174 rfl rfl rfl ?_
      refine C10.callV (hw _ (List.mem_of_getElem? (i := 86) rfl)) (hw _ (List.mem_of_getElem? (i := 87) rfl)) (hw _ (List.mem_of_getElem? (i := 89) rfl)) (hw _ (List.mem_of_getElem? (i := 88) rfl)) (hw _ (List.mem_of_getElem? (i := 34) rfl)) (hw _ (List.mem_of_getElem? (i := 90) rfl)) E_b4 (by decide) (a := b4) (rm11 l Z a0 hw b4 bc7 (0 : Int32) ko3 (0 : Int32) vs3 .null h7 n0 C10.size F_b4_arguments F_b4_next V_bc7) (argsL := []) pd11 rfl 1 (by decide) (by decide) (by decide) (by decide) (rest := [(.int (1 : Int32))]) rfl rfl (Nat.le_of_eq rfl) at_176 rfl (fun v11 T11 h11 C11 qq11 => ?_)
      obtain ⟨rfl, hh11⟩ := qq11
      have hh11 := hh11.symm; subst hh11
      show Go p e below F n0 (fun v _ => v = some (.int (1 : Int32))) T11 (mkF m 179 #[.val (.int i0), .val (.int i1), .val (.int i2), .val (.int i3), .val (.int (0 : Int32)), .val (.int (0 : Int32)), .val (.ref bo3), .val (.ref b4), .val (.int (1 : Int32)), .val (.int (0 : Int32))] [(.int (f11 (0 : Int32) (0 : Int32))), (.int (1 : Int32))])
      refine C11.iload at_179 rfl rfl ?_
      refine C11.iload at_181 rfl rfl ?_
      refine C11.icmp_ge at_183 (by decide) (by decide : _ = 190) rfl (fun _ => ?_) (fun q => absurd q (by decide))
      refine C11.iconst (0 : Int32) at_190 rfl rfl ?_
      refine C11.icmp_ne at_191 (by decide) (by decide : _ = 198) rfl (fun q => absurd (by decide) q) (fun _ => ?_)
      refine C11.iconst (1 : Int32) at_194 rfl rfl ?_
      refine C11.goto at_195 (by decide) (by decide : _ = 199) ?_
      refine C11.iand at_199 rfl ?_
      rw [own_and11]
      refine C11.istore at_200 rfl (L' := #[.val (.int i0), .val (.int i1), .val (.int i2), .val (.int i3), .val (.int (0 : Int32)), .val (.int (0 : Int32)), .val (.ref bo3), .val (.ref b4), .val (.int (1 : Int32)), .val (.int (0 : Int32))]) rfl ?_
      refine C11.iload at_202 rfl rfl ?_
      refine C11.iconst (3 : Int32) at_204 rfl rfl ?_
      refine C11.icmp_lt at_205 (by decide) (by decide : _ = 223) rfl (fun _ => ?_) (fun q => absurd (by decide) q)
      refine C11.iload at_223 rfl rfl ?_
      refine C11.aload at_225 rfl rfl rfl ?_
      refine C11.callV (hw _ (List.mem_of_getElem? (i := 86) rfl)) (hw _ (List.mem_of_getElem? (i := 87) rfl)) (hw _ (List.mem_of_getElem? (i := 89) rfl)) (hw _ (List.mem_of_getElem? (i := 88) rfl)) (hw _ (List.mem_of_getElem? (i := 34) rfl)) (hw _ (List.mem_of_getElem? (i := 90) rfl)) E_b4 (by decide) (a := b4) (rm11 l Z a0 hw b4 bc7 (0 : Int32) ko3 (0 : Int32) vs3 .null h7 n0 C11.size F_b4_arguments F_b4_next V_bc7) (argsL := []) pd11 rfl 1 (by decide) (by decide) (by decide) (by decide) (rest := [(.int (1 : Int32))]) rfl rfl (Nat.le_of_eq rfl) at_227 rfl (fun v12 T12 h12 C12 qq12 => ?_)
      obtain ⟨rfl, hh12⟩ := qq12
      have hh12 := hh12.symm; subst hh12
      show Go p e below F n0 (fun v _ => v = some (.int (1 : Int32))) T12 (mkF m 230 #[.val (.int i0), .val (.int i1), .val (.int i2), .val (.int i3), .val (.int (0 : Int32)), .val (.int (0 : Int32)), .val (.ref bo3), .val (.ref b4), .val (.int (1 : Int32)), .val (.int (0 : Int32))] [(.int (f11 (0 : Int32) (0 : Int32))), (.int (1 : Int32))])
      refine C12.iload at_230 rfl rfl ?_
      refine C12.iload at_232 rfl rfl ?_
      refine C12.icmp_ge at_234 (by decide) (by decide : _ = 241) rfl (fun _ => ?_) (fun q => absurd q (by decide))
      refine C12.iconst (0 : Int32) at_241 rfl rfl ?_
      refine C12.icmp_ne at_242 (by decide) (by decide : _ = 249) rfl (fun q => absurd (by decide) q) (fun _ => ?_)
      refine C12.iconst (1 : Int32) at_245 rfl rfl ?_
      refine C12.goto at_246 (by decide) (by decide : _ = 250) ?_
      refine C12.iand at_250 rfl ?_
      rw [own_and11]
      refine C12.istore at_251 rfl (L' := #[.val (.int i0), .val (.int i1), .val (.int i2), .val (.int i3), .val (.int (0 : Int32)), .val (.int (0 : Int32)), .val (.ref bo3), .val (.ref b4), .val (.int (1 : Int32)), .val (.int (0 : Int32))]) rfl ?_
      refine C12.iload at_253 rfl rfl ?_
      exact C12.retN (t := .boolean) at_255 rfl (by simp) (by decide) (by decide) (w := (1 : Int32)) rfl rfl
    · subst e
      refine C0.iload at_10 rfl rfl ?_
      refine C0.iloadN at_12 rfl rfl ?_
      refine C0.callS (hw _ (List.mem_of_getElem? (i := 0) rfl)) (hw _ (List.mem_of_getElem? (i := 1) rfl)) (hw _ (List.mem_of_getElem? (i := 2) rfl)) (hw _ (List.mem_of_getElem? (i := 3) rfl)) (by decide) (rm1 l Z a0 hw (0 : Int32) i2 cs h0 n0 C0.size S_COMPACT_STRINGS hcs (Or.inl rfl)) (argsL := [(.int (0 : Int32)), (.int i2)]) pd1 rfl 0 (by decide) (by decide) (by decide) (by decide) (rest := []) rfl rfl (Nat.le_of_eq rfl) at_13 rfl (fun v13 T13 h13 C13 qq13 => ?_)
      obtain ⟨bo13, ko13, vs13, rfl, K13, p13_0, p13_1, p13_2, p13_3⟩ := qq13
      have K13 := ext_keep K13
      have S_COMPACT_STRINGS := S_COMPACT_STRINGS.ext K13
      have S_DEFAULTCAPACITY_EMPTY_ELEMENTDATA := S_DEFAULTCAPACITY_EMPTY_ELEMENTDATA.ext K13
      have E_bo13 := p13_0
      have V_bo13 := p13_1
      have hr := p13_2
      have g_bo13 := p13_3
      show Go p e below F n0 (fun v _ => v = some (.int (1 : Int32))) T13 (mkF m 16 #[.val (.int i0), .val (.int i1), .val (.int i2), .val (.int i3), .val (.int (0 : Int32)), .val (.int (1 : Int32)), .unset, .unset, .unset, .unset] [(.ref bo13)])
      refine C13.astore at_16 rfl rfl (L' := #[.val (.int i0), .val (.int i1), .val (.int i2), .val (.int i3), .val (.int (0 : Int32)), .val (.int (1 : Int32)), .val (.ref bo13), .unset, .unset, .unset]) rfl ?_
      refine C13.new (hw _ (List.mem_of_getElem? (i := 32) rfl)) (hw _ (List.mem_of_getElem? (i := 33) rfl)) (hw _ (List.mem_of_getElem? (i := 34) rfl)) at_18 rfl (by decide) (by decide) (fun T14 h14 b14 C14 e14 g_b14 E14 E_b14 D14 => ?_)
      have ne_bo13_b14 : bo13 ≠ b14 := Nat.ne_of_lt (Nat.lt_of_lt_of_eq E_bo13.lt e14.symm)
      have S_COMPACT_STRINGS := S_COMPACT_STRINGS.ext E14
      have S_DEFAULTCAPACITY_EMPTY_ELEMENTDATA := S_DEFAULTCAPACITY_EMPTY_ELEMENTDATA.ext E14
      have E_bo13 := E_bo13.ext E14
      have V_bo13 := V_bo13.ext E14
      have F_b14_operands : Fld Z h14 b14 "com/example/bouncer/bouncer/cli/Arguments" "operands" "Ljava/util/List;" .null := D14 (Or.inr (hw _ (List.mem_of_getElem? (i := 68) rfl))) (ty := (.object "java/util/List")) (by decide)
      have F_b14_command : Fld Z h14 b14 "com/example/bouncer/bouncer/cli/Arguments" "command" "Ljava/lang/String;" .null := D14 (Or.inr (hw _ (List.mem_of_getElem? (i := 70) rfl))) (ty := (.object "java/lang/String")) (by decide)
      have F_b14_usage : Fld Z h14 b14 "com/example/bouncer/bouncer/cli/Arguments" "usage" "Ljava/lang/String;" .null := D14 (Or.inr (hw _ (List.mem_of_getElem? (i := 72) rfl))) (ty := (.object "java/lang/String")) (by decide)
      have F_b14_arguments : Fld Z h14 b14 "com/example/bouncer/bouncer/cli/Arguments" "arguments" "[Ljava/lang/String;" .null := D14 (Or.inr (hw _ (List.mem_of_getElem? (i := 83) rfl))) (ty := (.array (.object "java/lang/String"))) (by decide)
      have F_b14_maxOperands : Fld Z h14 b14 "com/example/bouncer/bouncer/cli/Arguments" "maxOperands" "I" (.int (0 : Int32)) := D14 (Or.inr (hw _ (List.mem_of_getElem? (i := 85) rfl))) (ty := .int) (by decide)
      have F_b14_next : Fld Z h14 b14 "com/example/bouncer/bouncer/cli/Arguments" "next" "I" (.int (0 : Int32)) := D14 (Or.inl (hw _ (List.mem_of_getElem? (i := 92) rfl))) (ty := .int) (by decide)
      refine C14.dup at_21 rfl rfl ?_
      refine C14.ldcStr (hw _ (List.mem_of_getElem? (i := 35) rfl)) (own_wS hw) 4 (by decide) (by decide) (by decide) (by decide) at_22 rfl (fun s15 T15 h15 C15 E15 => ?_)
      have S_COMPACT_STRINGS := S_COMPACT_STRINGS.ext E15
      have S_DEFAULTCAPACITY_EMPTY_ELEMENTDATA := S_DEFAULTCAPACITY_EMPTY_ELEMENTDATA.ext E15
      have E_bo13 := E_bo13.ext E15
      have V_bo13 := V_bo13.ext E15
      have E_b14 := E_b14.ext E15
      have F_b14_operands := F_b14_operands.ext E15
      have F_b14_command := F_b14_command.ext E15
      have F_b14_usage := F_b14_usage.ext E15
      have F_b14_arguments := F_b14_arguments.ext E15
      have F_b14_maxOperands := F_b14_maxOperands.ext E15
      have F_b14_next := F_b14_next.ext E15
      refine C15.ldcStr (hw _ (List.mem_of_getElem? (i := 38) rfl)) (own_wS hw) 4 (by decide) (by decide) (by decide) (by decide) at_24 rfl (fun s16 T16 h16 C16 E16 => ?_)
      have S_COMPACT_STRINGS := S_COMPACT_STRINGS.ext E16
      have S_DEFAULTCAPACITY_EMPTY_ELEMENTDATA := S_DEFAULTCAPACITY_EMPTY_ELEMENTDATA.ext E16
      have E_bo13 := E_bo13.ext E16
      have V_bo13 := V_bo13.ext E16
      have E_b14 := E_b14.ext E16
      have F_b14_operands := F_b14_operands.ext E16
      have F_b14_command := F_b14_command.ext E16
      have F_b14_usage := F_b14_usage.ext E16
      have F_b14_arguments := F_b14_arguments.ext E16
      have F_b14_maxOperands := F_b14_maxOperands.ext E16
      have F_b14_next := F_b14_next.ext E16
      refine C16.aload at_26 rfl rfl rfl ?_
      refine C16.iloadN at_28 rfl rfl ?_
      refine C16.callN rfl (hw _ (List.mem_of_getElem? (i := 39) rfl)) (hw _ (List.mem_of_getElem? (i := 40) rfl)) (hw _ (List.mem_of_getElem? (i := 34) rfl)) (hw _ (List.mem_of_getElem? (i := 41) rfl)) (by decide) (a := b14) (rm7 l Z a0 hw b14 s15 s16 bo13 i3 de .null .null .null .null (.int (0 : Int32)) ko13 (0 : Int32) vs13 .null h16 n0 C16.size E_b14 F_b14_operands F_b14_command F_b14_usage F_b14_arguments F_b14_maxOperands F_b14_next g_b14 S_DEFAULTCAPACITY_EMPTY_ELEMENTDATA E_bo13 V_bo13 (by decide)) (argsL := [(.ref s15), (.ref s16), (.ref bo13), (.int i3)]) pd7 rfl 1 (by decide) (by decide) (by decide) (by decide) (rest := [(.ref b14)]) rfl rfl (Nat.le_of_eq rfl) at_29 rfl (fun v17 T17 h17 C17 qq17 => ?_)
      obtain ⟨bc17, rfl, K17, p17_0, p17_1, p17_2, p17_3, p17_4, p17_5⟩ := qq17
      have S_COMPACT_STRINGS := own_stak S_COMPACT_STRINGS K17 (allS (own_plainE E_b14) (all0))
      have S_DEFAULTCAPACITY_EMPTY_ELEMENTDATA := own_stak S_DEFAULTCAPACITY_EMPTY_ELEMENTDATA K17 (allS (own_plainE E_b14) (all0))
      have E_bo13 := E_bo13.keep K17
      have V_bo13 := V_bo13.keep K17 (ninS ne_bo13_b14 nin0)
      have E_b14 := E_b14.keep K17
      have E_b14 := p17_0
      have F_b14_arguments := p17_1
      have F_b14_next := p17_2
      have E_bc17 := p17_3
      have V_bc17 := p17_4
      have g_bc17 := p17_5
      show Go p e below F n0 (fun v _ => v = some (.int (1 : Int32))) T17 (mkF m 32 #[.val (.int i0), .val (.int i1), .val (.int i2), .val (.int i3), .val (.int (0 : Int32)), .val (.int (1 : Int32)), .val (.ref bo13), .unset, .unset, .unset] [(.ref b14)])
      refine C17.astore at_32 rfl rfl (L' := #[.val (.int i0), .val (.int i1), .val (.int i2), .val (.int i3), .val (.int (0 : Int32)), .val (.int (1 : Int32)), .val (.ref bo13), .val (.ref b14), .unset, .unset]) rfl ?_
      refine C17.iconst (1 : Int32) at_34 rfl rfl ?_
      refine C17.istore at_35 rfl (L' := #[.val (.int i0), .val (.int i1), .val (.int i2), .val (.int i3), .val (.int (0 : Int32)), .val (.int (1 : Int32)), .val (.ref bo13), .val (.ref b14), .val (.int (1 : Int32)), .unset]) rfl ?_
      refine C17.iconst (0 : Int32) at_37 rfl rfl ?_
      refine C17.istore at_38 rfl (L' := #[.val (.int i0), .val (.int i1), .val (.int i2), .val (.int i3), .val (.int (0 : Int32)), .val (.int (1 : Int32)), .val (.ref bo13), .val (.ref b14), .val (.int (1 : Int32)), .val (.int (0 : Int32))]) rfl ?_
      refine C17.iload at_40 rfl rfl ?_
      refine C17.aload at_42 rfl rfl rfl ?_
      refine C17.callV (hw _ (List.mem_of_getElem? (i := 86) rfl)) (hw _ (List.mem_of_getElem? (i := 87) rfl)) (hw _ (List.mem_of_getElem? (i := 89) rfl)) (hw _ (List.mem_of_getElem? (i := 88) rfl)) (hw _ (List.mem_of_getElem? (i := 34) rfl)) (hw _ (List.mem_of_getElem? (i := 90) rfl)) E_b14 (by decide) (a := b14) (rm11 l Z a0 hw b14 bc17 (0 : Int32) ko13 (0 : Int32) vs13 .null h17 n0 C17.size F_b14_arguments F_b14_next V_bc17) (argsL := []) pd11 rfl 1 (by decide) (by decide) (by decide) (by decide) (rest := [(.int (1 : Int32))]) rfl rfl (Nat.le_of_eq rfl) at_44 rfl (fun v18 T18 h18 C18 qq18 => ?_)
      obtain ⟨rfl, hh18⟩ := qq18
      have hh18 := hh18.symm; subst hh18
      show Go p e below F n0 (fun v _ => v = some (.int (1 : Int32))) T18 (mkF m 47 #[.val (.int i0), .val (.int i1), .val (.int i2), .val (.int i3), .val (.int (0 : Int32)), .val (.int (1 : Int32)), .val (.ref bo13), .val (.ref b14), .val (.int (1 : Int32)), .val (.int (0 : Int32))] [(.int (f11 (0 : Int32) (0 : Int32))), (.int (1 : Int32))])
      refine C18.iload at_47 rfl rfl ?_
      refine C18.iload at_49 rfl rfl ?_
      refine C18.icmp_ge at_51 (by decide) (by decide : _ = 58) rfl (fun _ => ?_) (fun q => absurd q (by decide))
      refine C18.iconst (0 : Int32) at_58 rfl rfl ?_
      refine C18.icmp_ne at_59 (by decide) (by decide : _ = 66) rfl (fun q => absurd (by decide) q) (fun _ => ?_)
      refine C18.iconst (1 : Int32) at_62 rfl rfl ?_
      refine C18.goto at_63 (by decide) (by decide : _ = 67) ?_
      refine C18.iand at_67 rfl ?_
      rw [own_and11]
      refine C18.istore at_68 rfl (L' := #[.val (.int i0), .val (.int i1), .val (.int i2), .val (.int i3), .val (.int (0 : Int32)), .val (.int (1 : Int32)), .val (.ref bo13), .val (.ref b14), .val (.int (1 : Int32)), .val (.int (0 : Int32))]) rfl ?_
      refine C18.iload at_70 rfl rfl ?_
      refine C18.iconst (1 : Int32) at_72 rfl rfl ?_
      refine C18.icmp_lt at_73 (by decide) (by decide : _ = 91) rfl (fun q => absurd q (by decide)) (fun _ => ?_)
      refine C18.iconst (0 : Int32) at_76 rfl rfl ?_
      refine C18.iload at_77 rfl rfl ?_
      refine C18.icmp_ge at_79 (by decide) (by decide : _ = 91) rfl (fun _ => ?_) (fun q => absurd q (by decide))
      refine C18.iload at_91 rfl rfl ?_
      refine C18.aload at_93 rfl rfl rfl ?_
      refine C18.callV (hw _ (List.mem_of_getElem? (i := 86) rfl)) (hw _ (List.mem_of_getElem? (i := 87) rfl)) (hw _ (List.mem_of_getElem? (i := 89) rfl)) (hw _ (List.mem_of_getElem? (i := 88) rfl)) (hw _ (List.mem_of_getElem? (i := 34) rfl)) (hw _ (List.mem_of_getElem? (i := 90) rfl)) E_b14 (by decide) (a := b14) (rm11 l Z a0 hw b14 bc17 (0 : Int32) ko13 (0 : Int32) vs13 .null h17 n0 C18.size F_b14_arguments F_b14_next V_bc17) (argsL := []) pd11 rfl 1 (by decide) (by decide) (by decide) (by decide) (rest := [(.int (1 : Int32))]) rfl rfl (Nat.le_of_eq rfl) at_95 rfl (fun v19 T19 h19 C19 qq19 => ?_)
      obtain ⟨rfl, hh19⟩ := qq19
      have hh19 := hh19.symm; subst hh19
      show Go p e below F n0 (fun v _ => v = some (.int (1 : Int32))) T19 (mkF m 98 #[.val (.int i0), .val (.int i1), .val (.int i2), .val (.int i3), .val (.int (0 : Int32)), .val (.int (1 : Int32)), .val (.ref bo13), .val (.ref b14), .val (.int (1 : Int32)), .val (.int (0 : Int32))] [(.int (f11 (0 : Int32) (0 : Int32))), (.int (1 : Int32))])
      refine C19.iload at_98 rfl rfl ?_
      refine C19.iload at_100 rfl rfl ?_
      refine C19.icmp_ge at_102 (by decide) (by decide : _ = 109) rfl (fun _ => ?_) (fun q => absurd q (by decide))
      refine C19.iconst (0 : Int32) at_109 rfl rfl ?_
      refine C19.icmp_ne at_110 (by decide) (by decide : _ = 117) rfl (fun q => absurd (by decide) q) (fun _ => ?_)
      refine C19.iconst (1 : Int32) at_113 rfl rfl ?_
      refine C19.goto at_114 (by decide) (by decide : _ = 118) ?_
      refine C19.iand at_118 rfl ?_
      rw [own_and11]
      refine C19.istore at_119 rfl (L' := #[.val (.int i0), .val (.int i1), .val (.int i2), .val (.int i3), .val (.int (0 : Int32)), .val (.int (1 : Int32)), .val (.ref bo13), .val (.ref b14), .val (.int (1 : Int32)), .val (.int (0 : Int32))]) rfl ?_
      refine C19.iload at_121 rfl rfl ?_
      refine C19.aload at_123 rfl rfl rfl ?_
      refine C19.callV (hw _ (List.mem_of_getElem? (i := 86) rfl)) (hw _ (List.mem_of_getElem? (i := 87) rfl)) (hw _ (List.mem_of_getElem? (i := 89) rfl)) (hw _ (List.mem_of_getElem? (i := 88) rfl)) (hw _ (List.mem_of_getElem? (i := 34) rfl)) (hw _ (List.mem_of_getElem? (i := 90) rfl)) E_b14 (by decide) (a := b14) (rm11 l Z a0 hw b14 bc17 (0 : Int32) ko13 (0 : Int32) vs13 .null h17 n0 C19.size F_b14_arguments F_b14_next V_bc17) (argsL := []) pd11 rfl 1 (by decide) (by decide) (by decide) (by decide) (rest := [(.int (1 : Int32))]) rfl rfl (Nat.le_of_eq rfl) at_125 rfl (fun v20 T20 h20 C20 qq20 => ?_)
      obtain ⟨rfl, hh20⟩ := qq20
      have hh20 := hh20.symm; subst hh20
      show Go p e below F n0 (fun v _ => v = some (.int (1 : Int32))) T20 (mkF m 128 #[.val (.int i0), .val (.int i1), .val (.int i2), .val (.int i3), .val (.int (0 : Int32)), .val (.int (1 : Int32)), .val (.ref bo13), .val (.ref b14), .val (.int (1 : Int32)), .val (.int (0 : Int32))] [(.int (f11 (0 : Int32) (0 : Int32))), (.int (1 : Int32))])
      refine C20.iload at_128 rfl rfl ?_
      refine C20.iload at_130 rfl rfl ?_
      refine C20.icmp_ge at_132 (by decide) (by decide : _ = 139) rfl (fun _ => ?_) (fun q => absurd q (by decide))
      refine C20.iconst (0 : Int32) at_139 rfl rfl ?_
      refine C20.icmp_ne at_140 (by decide) (by decide : _ = 147) rfl (fun q => absurd (by decide) q) (fun _ => ?_)
      refine C20.iconst (1 : Int32) at_143 rfl rfl ?_
      refine C20.goto at_144 (by decide) (by decide : _ = 148) ?_
      refine C20.iand at_148 rfl ?_
      rw [own_and11]
      refine C20.istore at_149 rfl (L' := #[.val (.int i0), .val (.int i1), .val (.int i2), .val (.int i3), .val (.int (0 : Int32)), .val (.int (1 : Int32)), .val (.ref bo13), .val (.ref b14), .val (.int (1 : Int32)), .val (.int (0 : Int32))]) rfl ?_
      refine C20.iload at_151 rfl rfl ?_
      refine C20.iconst (2 : Int32) at_153 rfl rfl ?_
      refine C20.icmp_lt at_154 (by decide) (by decide : _ = 172) rfl (fun _ => ?_) (fun q => absurd (by decide) q)
      refine C20.iload at_172 rfl rfl ?_
      refine C20.aload at_174 rfl rfl rfl ?_
      refine C20.callV (hw _ (List.mem_of_getElem? (i := 86) rfl)) (hw _ (List.mem_of_getElem? (i := 87) rfl)) (hw _ (List.mem_of_getElem? (i := 89) rfl)) (hw _ (List.mem_of_getElem? (i := 88) rfl)) (hw _ (List.mem_of_getElem? (i := 34) rfl)) (hw _ (List.mem_of_getElem? (i := 90) rfl)) E_b14 (by decide) (a := b14) (rm11 l Z a0 hw b14 bc17 (0 : Int32) ko13 (0 : Int32) vs13 .null h17 n0 C20.size F_b14_arguments F_b14_next V_bc17) (argsL := []) pd11 rfl 1 (by decide) (by decide) (by decide) (by decide) (rest := [(.int (1 : Int32))]) rfl rfl (Nat.le_of_eq rfl) at_176 rfl (fun v21 T21 h21 C21 qq21 => ?_)
      obtain ⟨rfl, hh21⟩ := qq21
      have hh21 := hh21.symm; subst hh21
      show Go p e below F n0 (fun v _ => v = some (.int (1 : Int32))) T21 (mkF m 179 #[.val (.int i0), .val (.int i1), .val (.int i2), .val (.int i3), .val (.int (0 : Int32)), .val (.int (1 : Int32)), .val (.ref bo13), .val (.ref b14), .val (.int (1 : Int32)), .val (.int (0 : Int32))] [(.int (f11 (0 : Int32) (0 : Int32))), (.int (1 : Int32))])
      refine C21.iload at_179 rfl rfl ?_
      refine C21.iload at_181 rfl rfl ?_
      refine C21.icmp_ge at_183 (by decide) (by decide : _ = 190) rfl (fun _ => ?_) (fun q => absurd q (by decide))
      refine C21.iconst (0 : Int32) at_190 rfl rfl ?_
      refine C21.icmp_ne at_191 (by decide) (by decide : _ = 198) rfl (fun q => absurd (by decide) q) (fun _ => ?_)
      refine C21.iconst (1 : Int32) at_194 rfl rfl ?_
      refine C21.goto at_195 (by decide) (by decide : _ = 199) ?_
      refine C21.iand at_199 rfl ?_
      rw [own_and11]
      refine C21.istore at_200 rfl (L' := #[.val (.int i0), .val (.int i1), .val (.int i2), .val (.int i3), .val (.int (0 : Int32)), .val (.int (1 : Int32)), .val (.ref bo13), .val (.ref b14), .val (.int (1 : Int32)), .val (.int (0 : Int32))]) rfl ?_
      refine C21.iload at_202 rfl rfl ?_
      refine C21.iconst (3 : Int32) at_204 rfl rfl ?_
      refine C21.icmp_lt at_205 (by decide) (by decide : _ = 223) rfl (fun _ => ?_) (fun q => absurd (by decide) q)
      refine C21.iload at_223 rfl rfl ?_
      refine C21.aload at_225 rfl rfl rfl ?_
      refine C21.callV (hw _ (List.mem_of_getElem? (i := 86) rfl)) (hw _ (List.mem_of_getElem? (i := 87) rfl)) (hw _ (List.mem_of_getElem? (i := 89) rfl)) (hw _ (List.mem_of_getElem? (i := 88) rfl)) (hw _ (List.mem_of_getElem? (i := 34) rfl)) (hw _ (List.mem_of_getElem? (i := 90) rfl)) E_b14 (by decide) (a := b14) (rm11 l Z a0 hw b14 bc17 (0 : Int32) ko13 (0 : Int32) vs13 .null h17 n0 C21.size F_b14_arguments F_b14_next V_bc17) (argsL := []) pd11 rfl 1 (by decide) (by decide) (by decide) (by decide) (rest := [(.int (1 : Int32))]) rfl rfl (Nat.le_of_eq rfl) at_227 rfl (fun v22 T22 h22 C22 qq22 => ?_)
      obtain ⟨rfl, hh22⟩ := qq22
      have hh22 := hh22.symm; subst hh22
      show Go p e below F n0 (fun v _ => v = some (.int (1 : Int32))) T22 (mkF m 230 #[.val (.int i0), .val (.int i1), .val (.int i2), .val (.int i3), .val (.int (0 : Int32)), .val (.int (1 : Int32)), .val (.ref bo13), .val (.ref b14), .val (.int (1 : Int32)), .val (.int (0 : Int32))] [(.int (f11 (0 : Int32) (0 : Int32))), (.int (1 : Int32))])
      refine C22.iload at_230 rfl rfl ?_
      refine C22.iload at_232 rfl rfl ?_
      refine C22.icmp_ge at_234 (by decide) (by decide : _ = 241) rfl (fun _ => ?_) (fun q => absurd q (by decide))
      refine C22.iconst (0 : Int32) at_241 rfl rfl ?_
      refine C22.icmp_ne at_242 (by decide) (by decide : _ = 249) rfl (fun q => absurd (by decide) q) (fun _ => ?_)
      refine C22.iconst (1 : Int32) at_245 rfl rfl ?_
      refine C22.goto at_246 (by decide) (by decide : _ = 250) ?_
      refine C22.iand at_250 rfl ?_
      rw [own_and11]
      refine C22.istore at_251 rfl (L' := #[.val (.int i0), .val (.int i1), .val (.int i2), .val (.int i3), .val (.int (0 : Int32)), .val (.int (1 : Int32)), .val (.ref bo13), .val (.ref b14), .val (.int (1 : Int32)), .val (.int (0 : Int32))]) rfl ?_
      refine C22.iload at_253 rfl rfl ?_
      exact C22.retN (t := .boolean) at_255 rfl (by simp) (by decide) (by decide) (w := (1 : Int32)) rfl rfl
    · subst e
      refine C0.iload at_10 rfl rfl ?_
      refine C0.iloadN at_12 rfl rfl ?_
      refine C0.callS (hw _ (List.mem_of_getElem? (i := 0) rfl)) (hw _ (List.mem_of_getElem? (i := 1) rfl)) (hw _ (List.mem_of_getElem? (i := 2) rfl)) (hw _ (List.mem_of_getElem? (i := 3) rfl)) (by decide) (rm1 l Z a0 hw (0 : Int32) i2 cs h0 n0 C0.size S_COMPACT_STRINGS hcs (Or.inl rfl)) (argsL := [(.int (0 : Int32)), (.int i2)]) pd1 rfl 0 (by decide) (by decide) (by decide) (by decide) (rest := []) rfl rfl (Nat.le_of_eq rfl) at_13 rfl (fun v23 T23 h23 C23 qq23 => ?_)
      obtain ⟨bo23, ko23, vs23, rfl, K23, p23_0, p23_1, p23_2, p23_3⟩ := qq23
      have K23 := ext_keep K23
      have S_COMPACT_STRINGS := S_COMPACT_STRINGS.ext K23
      have S_DEFAULTCAPACITY_EMPTY_ELEMENTDATA := S_DEFAULTCAPACITY_EMPTY_ELEMENTDATA.ext K23
      have E_bo23 := p23_0
      have V_bo23 := p23_1
      have hr := p23_2
      have g_bo23 := p23_3
      show Go p e below F n0 (fun v _ => v = some (.int (1 : Int32))) T23 (mkF m 16 #[.val (.int i0), .val (.int i1), .val (.int i2), .val (.int i3), .val (.int (0 : Int32)), .val (.int (2 : Int32)), .unset, .unset, .unset, .unset] [(.ref bo23)])
      refine C23.astore at_16 rfl rfl (L' := #[.val (.int i0), .val (.int i1), .val (.int i2), .val (.int i3), .val (.int (0 : Int32)), .val (.int (2 : Int32)), .val (.ref bo23), .unset, .unset, .unset]) rfl ?_
      refine C23.new (hw _ (List.mem_of_getElem? (i := 32) rfl)) (hw _ (List.mem_of_getElem? (i := 33) rfl)) (hw _ (List.mem_of_getElem? (i := 34) rfl)) at_18 rfl (by decide) (by decide) (fun T24 h24 b24 C24 e24 g_b24 E24 E_b24 D24 => ?_)
      have ne_bo23_b24 : bo23 ≠ b24 := Nat.ne_of_lt (Nat.lt_of_lt_of_eq E_bo23.lt e24.symm)
      have S_COMPACT_STRINGS := S_COMPACT_STRINGS.ext E24
      have S_DEFAULTCAPACITY_EMPTY_ELEMENTDATA := S_DEFAULTCAPACITY_EMPTY_ELEMENTDATA.ext E24
      have E_bo23 := E_bo23.ext E24
      have V_bo23 := V_bo23.ext E24
      have F_b24_operands : Fld Z h24 b24 "com/example/bouncer/bouncer/cli/Arguments" "operands" "Ljava/util/List;" .null := D24 (Or.inr (hw _ (List.mem_of_getElem? (i := 68) rfl))) (ty := (.object "java/util/List")) (by decide)
      have F_b24_command : Fld Z h24 b24 "com/example/bouncer/bouncer/cli/Arguments" "command" "Ljava/lang/String;" .null := D24 (Or.inr (hw _ (List.mem_of_getElem? (i := 70) rfl))) (ty := (.object "java/lang/String")) (by decide)
      have F_b24_usage : Fld Z h24 b24 "com/example/bouncer/bouncer/cli/Arguments" "usage" "Ljava/lang/String;" .null := D24 (Or.inr (hw _ (List.mem_of_getElem? (i := 72) rfl))) (ty := (.object "java/lang/String")) (by decide)
      have F_b24_arguments : Fld Z h24 b24 "com/example/bouncer/bouncer/cli/Arguments" "arguments" "[Ljava/lang/String;" .null := D24 (Or.inr (hw _ (List.mem_of_getElem? (i := 83) rfl))) (ty := (.array (.object "java/lang/String"))) (by decide)
      have F_b24_maxOperands : Fld Z h24 b24 "com/example/bouncer/bouncer/cli/Arguments" "maxOperands" "I" (.int (0 : Int32)) := D24 (Or.inr (hw _ (List.mem_of_getElem? (i := 85) rfl))) (ty := .int) (by decide)
      have F_b24_next : Fld Z h24 b24 "com/example/bouncer/bouncer/cli/Arguments" "next" "I" (.int (0 : Int32)) := D24 (Or.inl (hw _ (List.mem_of_getElem? (i := 92) rfl))) (ty := .int) (by decide)
      refine C24.dup at_21 rfl rfl ?_
      refine C24.ldcStr (hw _ (List.mem_of_getElem? (i := 35) rfl)) (own_wS hw) 4 (by decide) (by decide) (by decide) (by decide) at_22 rfl (fun s25 T25 h25 C25 E25 => ?_)
      have S_COMPACT_STRINGS := S_COMPACT_STRINGS.ext E25
      have S_DEFAULTCAPACITY_EMPTY_ELEMENTDATA := S_DEFAULTCAPACITY_EMPTY_ELEMENTDATA.ext E25
      have E_bo23 := E_bo23.ext E25
      have V_bo23 := V_bo23.ext E25
      have E_b24 := E_b24.ext E25
      have F_b24_operands := F_b24_operands.ext E25
      have F_b24_command := F_b24_command.ext E25
      have F_b24_usage := F_b24_usage.ext E25
      have F_b24_arguments := F_b24_arguments.ext E25
      have F_b24_maxOperands := F_b24_maxOperands.ext E25
      have F_b24_next := F_b24_next.ext E25
      refine C25.ldcStr (hw _ (List.mem_of_getElem? (i := 38) rfl)) (own_wS hw) 4 (by decide) (by decide) (by decide) (by decide) at_24 rfl (fun s26 T26 h26 C26 E26 => ?_)
      have S_COMPACT_STRINGS := S_COMPACT_STRINGS.ext E26
      have S_DEFAULTCAPACITY_EMPTY_ELEMENTDATA := S_DEFAULTCAPACITY_EMPTY_ELEMENTDATA.ext E26
      have E_bo23 := E_bo23.ext E26
      have V_bo23 := V_bo23.ext E26
      have E_b24 := E_b24.ext E26
      have F_b24_operands := F_b24_operands.ext E26
      have F_b24_command := F_b24_command.ext E26
      have F_b24_usage := F_b24_usage.ext E26
      have F_b24_arguments := F_b24_arguments.ext E26
      have F_b24_maxOperands := F_b24_maxOperands.ext E26
      have F_b24_next := F_b24_next.ext E26
      refine C26.aload at_26 rfl rfl rfl ?_
      refine C26.iloadN at_28 rfl rfl ?_
      refine C26.callN rfl (hw _ (List.mem_of_getElem? (i := 39) rfl)) (hw _ (List.mem_of_getElem? (i := 40) rfl)) (hw _ (List.mem_of_getElem? (i := 34) rfl)) (hw _ (List.mem_of_getElem? (i := 41) rfl)) (by decide) (a := b24) (rm7 l Z a0 hw b24 s25 s26 bo23 i3 de .null .null .null .null (.int (0 : Int32)) ko23 (0 : Int32) vs23 .null h26 n0 C26.size E_b24 F_b24_operands F_b24_command F_b24_usage F_b24_arguments F_b24_maxOperands F_b24_next g_b24 S_DEFAULTCAPACITY_EMPTY_ELEMENTDATA E_bo23 V_bo23 (by decide)) (argsL := [(.ref s25), (.ref s26), (.ref bo23), (.int i3)]) pd7 rfl 1 (by decide) (by decide) (by decide) (by decide) (rest := [(.ref b24)]) rfl rfl (Nat.le_of_eq rfl) at_29 rfl (fun v27 T27 h27 C27 qq27 => ?_)
      obtain ⟨bc27, rfl, K27, p27_0, p27_1, p27_2, p27_3, p27_4, p27_5⟩ := qq27
      have S_COMPACT_STRINGS := own_stak S_COMPACT_STRINGS K27 (allS (own_plainE E_b24) (all0))
      have S_DEFAULTCAPACITY_EMPTY_ELEMENTDATA := own_stak S_DEFAULTCAPACITY_EMPTY_ELEMENTDATA K27 (allS (own_plainE E_b24) (all0))
      have E_bo23 := E_bo23.keep K27
      have V_bo23 := V_bo23.keep K27 (ninS ne_bo23_b24 nin0)
      have E_b24 := E_b24.keep K27
      have E_b24 := p27_0
      have F_b24_arguments := p27_1
      have F_b24_next := p27_2
      have E_bc27 := p27_3
      have V_bc27 := p27_4
      have g_bc27 := p27_5
      show Go p e below F n0 (fun v _ => v = some (.int (1 : Int32))) T27 (mkF m 32 #[.val (.int i0), .val (.int i1), .val (.int i2), .val (.int i3), .val (.int (0 : Int32)), .val (.int (2 : Int32)), .val (.ref bo23), .unset, .unset, .unset] [(.ref b24)])
      refine C27.astore at_32 rfl rfl (L' := #[.val (.int i0), .val (.int i1), .val (.int i2), .val (.int i3), .val (.int (0 : Int32)), .val (.int (2 : Int32)), .val (.ref bo23), .val (.ref b24), .unset, .unset]) rfl ?_
      refine C27.iconst (1 : Int32) at_34 rfl rfl ?_
      refine C27.istore at_35 rfl (L' := #[.val (.int i0), .val (.int i1), .val (.int i2), .val (.int i3), .val (.int (0 : Int32)), .val (.int (2 : Int32)), .val (.ref bo23), .val (.ref b24), .val (.int (1 : Int32)), .unset]) rfl ?_
      refine C27.iconst (0 : Int32) at_37 rfl rfl ?_
      refine C27.istore at_38 rfl (L' := #[.val (.int i0), .val (.int i1), .val (.int i2), .val (.int i3), .val (.int (0 : Int32)), .val (.int (2 : Int32)), .val (.ref bo23), .val (.ref b24), .val (.int (1 : Int32)), .val (.int (0 : Int32))]) rfl ?_
      refine C27.iload at_40 rfl rfl ?_
      refine C27.aload at_42 rfl rfl rfl ?_
      refine C27.callV (hw _ (List.mem_of_getElem? (i := 86) rfl)) (hw _ (List.mem_of_getElem? (i := 87) rfl)) (hw _ (List.mem_of_getElem? (i := 89) rfl)) (hw _ (List.mem_of_getElem? (i := 88) rfl)) (hw _ (List.mem_of_getElem? (i := 34) rfl)) (hw _ (List.mem_of_getElem? (i := 90) rfl)) E_b24 (by decide) (a := b24) (rm11 l Z a0 hw b24 bc27 (0 : Int32) ko23 (0 : Int32) vs23 .null h27 n0 C27.size F_b24_arguments F_b24_next V_bc27) (argsL := []) pd11 rfl 1 (by decide) (by decide) (by decide) (by decide) (rest := [(.int (1 : Int32))]) rfl rfl (Nat.le_of_eq rfl) at_44 rfl (fun v28 T28 h28 C28 qq28 => ?_)
      obtain ⟨rfl, hh28⟩ := qq28
      have hh28 := hh28.symm; subst hh28
      show Go p e below F n0 (fun v _ => v = some (.int (1 : Int32))) T28 (mkF m 47 #[.val (.int i0), .val (.int i1), .val (.int i2), .val (.int i3), .val (.int (0 : Int32)), .val (.int (2 : Int32)), .val (.ref bo23), .val (.ref b24), .val (.int (1 : Int32)), .val (.int (0 : Int32))] [(.int (f11 (0 : Int32) (0 : Int32))), (.int (1 : Int32))])
      refine C28.iload at_47 rfl rfl ?_
      refine C28.iload at_49 rfl rfl ?_
      refine C28.icmp_ge at_51 (by decide) (by decide : _ = 58) rfl (fun _ => ?_) (fun q => absurd q (by decide))
      refine C28.iconst (0 : Int32) at_58 rfl rfl ?_
      refine C28.icmp_ne at_59 (by decide) (by decide : _ = 66) rfl (fun q => absurd (by decide) q) (fun _ => ?_)
      refine C28.iconst (1 : Int32) at_62 rfl rfl ?_
      refine C28.goto at_63 (by decide) (by decide : _ = 67) ?_
      refine C28.iand at_67 rfl ?_
      rw [own_and11]
      refine C28.istore at_68 rfl (L' := #[.val (.int i0), .val (.int i1), .val (.int i2), .val (.int i3), .val (.int (0 : Int32)), .val (.int (2 : Int32)), .val (.ref bo23), .val (.ref b24), .val (.int (1 : Int32)), .val (.int (0 : Int32))]) rfl ?_
      refine C28.iload at_70 rfl rfl ?_
      refine C28.iconst (1 : Int32) at_72 rfl rfl ?_
      refine C28.icmp_lt at_73 (by decide) (by decide : _ = 91) rfl (fun q => absurd q (by decide)) (fun _ => ?_)
      refine C28.iconst (0 : Int32) at_76 rfl rfl ?_
      refine C28.iload at_77 rfl rfl ?_
      refine C28.icmp_ge at_79 (by decide) (by decide : _ = 91) rfl (fun _ => ?_) (fun q => absurd q (by decide))
      refine C28.iload at_91 rfl rfl ?_
      refine C28.aload at_93 rfl rfl rfl ?_
      refine C28.callV (hw _ (List.mem_of_getElem? (i := 86) rfl)) (hw _ (List.mem_of_getElem? (i := 87) rfl)) (hw _ (List.mem_of_getElem? (i := 89) rfl)) (hw _ (List.mem_of_getElem? (i := 88) rfl)) (hw _ (List.mem_of_getElem? (i := 34) rfl)) (hw _ (List.mem_of_getElem? (i := 90) rfl)) E_b24 (by decide) (a := b24) (rm11 l Z a0 hw b24 bc27 (0 : Int32) ko23 (0 : Int32) vs23 .null h27 n0 C28.size F_b24_arguments F_b24_next V_bc27) (argsL := []) pd11 rfl 1 (by decide) (by decide) (by decide) (by decide) (rest := [(.int (1 : Int32))]) rfl rfl (Nat.le_of_eq rfl) at_95 rfl (fun v29 T29 h29 C29 qq29 => ?_)
      obtain ⟨rfl, hh29⟩ := qq29
      have hh29 := hh29.symm; subst hh29
      show Go p e below F n0 (fun v _ => v = some (.int (1 : Int32))) T29 (mkF m 98 #[.val (.int i0), .val (.int i1), .val (.int i2), .val (.int i3), .val (.int (0 : Int32)), .val (.int (2 : Int32)), .val (.ref bo23), .val (.ref b24), .val (.int (1 : Int32)), .val (.int (0 : Int32))] [(.int (f11 (0 : Int32) (0 : Int32))), (.int (1 : Int32))])
      refine C29.iload at_98 rfl rfl ?_
      refine C29.iload at_100 rfl rfl ?_
      refine C29.icmp_ge at_102 (by decide) (by decide : _ = 109) rfl (fun _ => ?_) (fun q => absurd q (by decide))
      refine C29.iconst (0 : Int32) at_109 rfl rfl ?_
      refine C29.icmp_ne at_110 (by decide) (by decide : _ = 117) rfl (fun q => absurd (by decide) q) (fun _ => ?_)
      refine C29.iconst (1 : Int32) at_113 rfl rfl ?_
      refine C29.goto at_114 (by decide) (by decide : _ = 118) ?_
      refine C29.iand at_118 rfl ?_
      rw [own_and11]
      refine C29.istore at_119 rfl (L' := #[.val (.int i0), .val (.int i1), .val (.int i2), .val (.int i3), .val (.int (0 : Int32)), .val (.int (2 : Int32)), .val (.ref bo23), .val (.ref b24), .val (.int (1 : Int32)), .val (.int (0 : Int32))]) rfl ?_
      refine C29.iload at_121 rfl rfl ?_
      refine C29.aload at_123 rfl rfl rfl ?_
      refine C29.callV (hw _ (List.mem_of_getElem? (i := 86) rfl)) (hw _ (List.mem_of_getElem? (i := 87) rfl)) (hw _ (List.mem_of_getElem? (i := 89) rfl)) (hw _ (List.mem_of_getElem? (i := 88) rfl)) (hw _ (List.mem_of_getElem? (i := 34) rfl)) (hw _ (List.mem_of_getElem? (i := 90) rfl)) E_b24 (by decide) (a := b24) (rm11 l Z a0 hw b24 bc27 (0 : Int32) ko23 (0 : Int32) vs23 .null h27 n0 C29.size F_b24_arguments F_b24_next V_bc27) (argsL := []) pd11 rfl 1 (by decide) (by decide) (by decide) (by decide) (rest := [(.int (1 : Int32))]) rfl rfl (Nat.le_of_eq rfl) at_125 rfl (fun v30 T30 h30 C30 qq30 => ?_)
      obtain ⟨rfl, hh30⟩ := qq30
      have hh30 := hh30.symm; subst hh30
      show Go p e below F n0 (fun v _ => v = some (.int (1 : Int32))) T30 (mkF m 128 #[.val (.int i0), .val (.int i1), .val (.int i2), .val (.int i3), .val (.int (0 : Int32)), .val (.int (2 : Int32)), .val (.ref bo23), .val (.ref b24), .val (.int (1 : Int32)), .val (.int (0 : Int32))] [(.int (f11 (0 : Int32) (0 : Int32))), (.int (1 : Int32))])
      refine C30.iload at_128 rfl rfl ?_
      refine C30.iload at_130 rfl rfl ?_
      refine C30.icmp_ge at_132 (by decide) (by decide : _ = 139) rfl (fun _ => ?_) (fun q => absurd q (by decide))
      refine C30.iconst (0 : Int32) at_139 rfl rfl ?_
      refine C30.icmp_ne at_140 (by decide) (by decide : _ = 147) rfl (fun q => absurd (by decide) q) (fun _ => ?_)
      refine C30.iconst (1 : Int32) at_143 rfl rfl ?_
      refine C30.goto at_144 (by decide) (by decide : _ = 148) ?_
      refine C30.iand at_148 rfl ?_
      rw [own_and11]
      refine C30.istore at_149 rfl (L' := #[.val (.int i0), .val (.int i1), .val (.int i2), .val (.int i3), .val (.int (0 : Int32)), .val (.int (2 : Int32)), .val (.ref bo23), .val (.ref b24), .val (.int (1 : Int32)), .val (.int (0 : Int32))]) rfl ?_
      refine C30.iload at_151 rfl rfl ?_
      refine C30.iconst (2 : Int32) at_153 rfl rfl ?_
      refine C30.icmp_lt at_154 (by decide) (by decide : _ = 172) rfl (fun q => absurd q (by decide)) (fun _ => ?_)
      refine C30.iconst (1 : Int32) at_157 rfl rfl ?_
      refine C30.iload at_158 rfl rfl ?_
      refine C30.icmp_ge at_160 (by decide) (by decide : _ = 172) rfl (fun _ => ?_) (fun q => absurd q (by decide))
      refine C30.iload at_172 rfl rfl ?_
      refine C30.aload at_174 rfl rfl rfl ?_
      refine C30.callV (hw _ (List.mem_of_getElem? (i := 86) rfl)) (hw _ (List.mem_of_getElem? (i := 87) rfl)) (hw _ (List.mem_of_getElem? (i := 89) rfl)) (hw _ (List.mem_of_getElem? (i := 88) rfl)) (hw _ (List.mem_of_getElem? (i := 34) rfl)) (hw _ (List.mem_of_getElem? (i := 90) rfl)) E_b24 (by decide) (a := b24) (rm11 l Z a0 hw b24 bc27 (0 : Int32) ko23 (0 : Int32) vs23 .null h27 n0 C30.size F_b24_arguments F_b24_next V_bc27) (argsL := []) pd11 rfl 1 (by decide) (by decide) (by decide) (by decide) (rest := [(.int (1 : Int32))]) rfl rfl (Nat.le_of_eq rfl) at_176 rfl (fun v31 T31 h31 C31 qq31 => ?_)
      obtain ⟨rfl, hh31⟩ := qq31
      have hh31 := hh31.symm; subst hh31
      show Go p e below F n0 (fun v _ => v = some (.int (1 : Int32))) T31 (mkF m 179 #[.val (.int i0), .val (.int i1), .val (.int i2), .val (.int i3), .val (.int (0 : Int32)), .val (.int (2 : Int32)), .val (.ref bo23), .val (.ref b24), .val (.int (1 : Int32)), .val (.int (0 : Int32))] [(.int (f11 (0 : Int32) (0 : Int32))), (.int (1 : Int32))])
      refine C31.iload at_179 rfl rfl ?_
      refine C31.iload at_181 rfl rfl ?_
      refine C31.icmp_ge at_183 (by decide) (by decide : _ = 190) rfl (fun _ => ?_) (fun q => absurd q (by decide))
      refine C31.iconst (0 : Int32) at_190 rfl rfl ?_
      refine C31.icmp_ne at_191 (by decide) (by decide : _ = 198) rfl (fun q => absurd (by decide) q) (fun _ => ?_)
      refine C31.iconst (1 : Int32) at_194 rfl rfl ?_
      refine C31.goto at_195 (by decide) (by decide : _ = 199) ?_
      refine C31.iand at_199 rfl ?_
      rw [own_and11]
      refine C31.istore at_200 rfl (L' := #[.val (.int i0), .val (.int i1), .val (.int i2), .val (.int i3), .val (.int (0 : Int32)), .val (.int (2 : Int32)), .val (.ref bo23), .val (.ref b24), .val (.int (1 : Int32)), .val (.int (0 : Int32))]) rfl ?_
      refine C31.iload at_202 rfl rfl ?_
      refine C31.iconst (3 : Int32) at_204 rfl rfl ?_
      refine C31.icmp_lt at_205 (by decide) (by decide : _ = 223) rfl (fun _ => ?_) (fun q => absurd (by decide) q)
      refine C31.iload at_223 rfl rfl ?_
      refine C31.aload at_225 rfl rfl rfl ?_
      refine C31.callV (hw _ (List.mem_of_getElem? (i := 86) rfl)) (hw _ (List.mem_of_getElem? (i := 87) rfl)) (hw _ (List.mem_of_getElem? (i := 89) rfl)) (hw _ (List.mem_of_getElem? (i := 88) rfl)) (hw _ (List.mem_of_getElem? (i := 34) rfl)) (hw _ (List.mem_of_getElem? (i := 90) rfl)) E_b24 (by decide) (a := b24) (rm11 l Z a0 hw b24 bc27 (0 : Int32) ko23 (0 : Int32) vs23 .null h27 n0 C31.size F_b24_arguments F_b24_next V_bc27) (argsL := []) pd11 rfl 1 (by decide) (by decide) (by decide) (by decide) (rest := [(.int (1 : Int32))]) rfl rfl (Nat.le_of_eq rfl) at_227 rfl (fun v32 T32 h32 C32 qq32 => ?_)
      obtain ⟨rfl, hh32⟩ := qq32
      have hh32 := hh32.symm; subst hh32
      show Go p e below F n0 (fun v _ => v = some (.int (1 : Int32))) T32 (mkF m 230 #[.val (.int i0), .val (.int i1), .val (.int i2), .val (.int i3), .val (.int (0 : Int32)), .val (.int (2 : Int32)), .val (.ref bo23), .val (.ref b24), .val (.int (1 : Int32)), .val (.int (0 : Int32))] [(.int (f11 (0 : Int32) (0 : Int32))), (.int (1 : Int32))])
      refine C32.iload at_230 rfl rfl ?_
      refine C32.iload at_232 rfl rfl ?_
      refine C32.icmp_ge at_234 (by decide) (by decide : _ = 241) rfl (fun _ => ?_) (fun q => absurd q (by decide))
      refine C32.iconst (0 : Int32) at_241 rfl rfl ?_
      refine C32.icmp_ne at_242 (by decide) (by decide : _ = 249) rfl (fun q => absurd (by decide) q) (fun _ => ?_)
      refine C32.iconst (1 : Int32) at_245 rfl rfl ?_
      refine C32.goto at_246 (by decide) (by decide : _ = 250) ?_
      refine C32.iand at_250 rfl ?_
      rw [own_and11]
      refine C32.istore at_251 rfl (L' := #[.val (.int i0), .val (.int i1), .val (.int i2), .val (.int i3), .val (.int (0 : Int32)), .val (.int (2 : Int32)), .val (.ref bo23), .val (.ref b24), .val (.int (1 : Int32)), .val (.int (0 : Int32))]) rfl ?_
      refine C32.iload at_253 rfl rfl ?_
      exact C32.retN (t := .boolean) at_255 rfl (by simp) (by decide) (by decide) (w := (1 : Int32)) rfl rfl
    · subst e
      refine C0.iload at_10 rfl rfl ?_
      refine C0.iloadN at_12 rfl rfl ?_
      refine C0.callS (hw _ (List.mem_of_getElem? (i := 0) rfl)) (hw _ (List.mem_of_getElem? (i := 1) rfl)) (hw _ (List.mem_of_getElem? (i := 2) rfl)) (hw _ (List.mem_of_getElem? (i := 3) rfl)) (by decide) (rm1 l Z a0 hw (0 : Int32) i2 cs h0 n0 C0.size S_COMPACT_STRINGS hcs (Or.inl rfl)) (argsL := [(.int (0 : Int32)), (.int i2)]) pd1 rfl 0 (by decide) (by decide) (by decide) (by decide) (rest := []) rfl rfl (Nat.le_of_eq rfl) at_13 rfl (fun v33 T33 h33 C33 qq33 => ?_)
      obtain ⟨bo33, ko33, vs33, rfl, K33, p33_0, p33_1, p33_2, p33_3⟩ := qq33
      have K33 := ext_keep K33
      have S_COMPACT_STRINGS := S_COMPACT_STRINGS.ext K33
      have S_DEFAULTCAPACITY_EMPTY_ELEMENTDATA := S_DEFAULTCAPACITY_EMPTY_ELEMENTDATA.ext K33
      have E_bo33 := p33_0
      have V_bo33 := p33_1
      have hr := p33_2
      have g_bo33 := p33_3
      show Go p e below F n0 (fun v _ => v = some (.int (1 : Int32))) T33 (mkF m 16 #[.val (.int i0), .val (.int i1), .val (.int i2), .val (.int i3), .val (.int (0 : Int32)), .val (.int (3 : Int32)), .unset, .unset, .unset, .unset] [(.ref bo33)])
      refine C33.astore at_16 rfl rfl (L' := #[.val (.int i0), .val (.int i1), .val (.int i2), .val (.int i3), .val (.int (0 : Int32)), .val (.int (3 : Int32)), .val (.ref bo33), .unset, .unset, .unset]) rfl ?_
      refine C33.new (hw _ (List.mem_of_getElem? (i := 32) rfl)) (hw _ (List.mem_of_getElem? (i := 33) rfl)) (hw _ (List.mem_of_getElem? (i := 34) rfl)) at_18 rfl (by decide) (by decide) (fun T34 h34 b34 C34 e34 g_b34 E34 E_b34 D34 => ?_)
      have ne_bo33_b34 : bo33 ≠ b34 := Nat.ne_of_lt (Nat.lt_of_lt_of_eq E_bo33.lt e34.symm)
      have S_COMPACT_STRINGS := S_COMPACT_STRINGS.ext E34
      have S_DEFAULTCAPACITY_EMPTY_ELEMENTDATA := S_DEFAULTCAPACITY_EMPTY_ELEMENTDATA.ext E34
      have E_bo33 := E_bo33.ext E34
      have V_bo33 := V_bo33.ext E34
      have F_b34_operands : Fld Z h34 b34 "com/example/bouncer/bouncer/cli/Arguments" "operands" "Ljava/util/List;" .null := D34 (Or.inr (hw _ (List.mem_of_getElem? (i := 68) rfl))) (ty := (.object "java/util/List")) (by decide)
      have F_b34_command : Fld Z h34 b34 "com/example/bouncer/bouncer/cli/Arguments" "command" "Ljava/lang/String;" .null := D34 (Or.inr (hw _ (List.mem_of_getElem? (i := 70) rfl))) (ty := (.object "java/lang/String")) (by decide)
      have F_b34_usage : Fld Z h34 b34 "com/example/bouncer/bouncer/cli/Arguments" "usage" "Ljava/lang/String;" .null := D34 (Or.inr (hw _ (List.mem_of_getElem? (i := 72) rfl))) (ty := (.object "java/lang/String")) (by decide)
      have F_b34_arguments : Fld Z h34 b34 "com/example/bouncer/bouncer/cli/Arguments" "arguments" "[Ljava/lang/String;" .null := D34 (Or.inr (hw _ (List.mem_of_getElem? (i := 83) rfl))) (ty := (.array (.object "java/lang/String"))) (by decide)
      have F_b34_maxOperands : Fld Z h34 b34 "com/example/bouncer/bouncer/cli/Arguments" "maxOperands" "I" (.int (0 : Int32)) := D34 (Or.inr (hw _ (List.mem_of_getElem? (i := 85) rfl))) (ty := .int) (by decide)
      have F_b34_next : Fld Z h34 b34 "com/example/bouncer/bouncer/cli/Arguments" "next" "I" (.int (0 : Int32)) := D34 (Or.inl (hw _ (List.mem_of_getElem? (i := 92) rfl))) (ty := .int) (by decide)
      refine C34.dup at_21 rfl rfl ?_
      refine C34.ldcStr (hw _ (List.mem_of_getElem? (i := 35) rfl)) (own_wS hw) 4 (by decide) (by decide) (by decide) (by decide) at_22 rfl (fun s35 T35 h35 C35 E35 => ?_)
      have S_COMPACT_STRINGS := S_COMPACT_STRINGS.ext E35
      have S_DEFAULTCAPACITY_EMPTY_ELEMENTDATA := S_DEFAULTCAPACITY_EMPTY_ELEMENTDATA.ext E35
      have E_bo33 := E_bo33.ext E35
      have V_bo33 := V_bo33.ext E35
      have E_b34 := E_b34.ext E35
      have F_b34_operands := F_b34_operands.ext E35
      have F_b34_command := F_b34_command.ext E35
      have F_b34_usage := F_b34_usage.ext E35
      have F_b34_arguments := F_b34_arguments.ext E35
      have F_b34_maxOperands := F_b34_maxOperands.ext E35
      have F_b34_next := F_b34_next.ext E35
      refine C35.ldcStr (hw _ (List.mem_of_getElem? (i := 38) rfl)) (own_wS hw) 4 (by decide) (by decide) (by decide) (by decide) at_24 rfl (fun s36 T36 h36 C36 E36 => ?_)
      have S_COMPACT_STRINGS := S_COMPACT_STRINGS.ext E36
      have S_DEFAULTCAPACITY_EMPTY_ELEMENTDATA := S_DEFAULTCAPACITY_EMPTY_ELEMENTDATA.ext E36
      have E_bo33 := E_bo33.ext E36
      have V_bo33 := V_bo33.ext E36
      have E_b34 := E_b34.ext E36
      have F_b34_operands := F_b34_operands.ext E36
      have F_b34_command := F_b34_command.ext E36
      have F_b34_usage := F_b34_usage.ext E36
      have F_b34_arguments := F_b34_arguments.ext E36
      have F_b34_maxOperands := F_b34_maxOperands.ext E36
      have F_b34_next := F_b34_next.ext E36
      refine C36.aload at_26 rfl rfl rfl ?_
      refine C36.iloadN at_28 rfl rfl ?_
      refine C36.callN rfl (hw _ (List.mem_of_getElem? (i := 39) rfl)) (hw _ (List.mem_of_getElem? (i := 40) rfl)) (hw _ (List.mem_of_getElem? (i := 34) rfl)) (hw _ (List.mem_of_getElem? (i := 41) rfl)) (by decide) (a := b34) (rm7 l Z a0 hw b34 s35 s36 bo33 i3 de .null .null .null .null (.int (0 : Int32)) ko33 (0 : Int32) vs33 .null h36 n0 C36.size E_b34 F_b34_operands F_b34_command F_b34_usage F_b34_arguments F_b34_maxOperands F_b34_next g_b34 S_DEFAULTCAPACITY_EMPTY_ELEMENTDATA E_bo33 V_bo33 (by decide)) (argsL := [(.ref s35), (.ref s36), (.ref bo33), (.int i3)]) pd7 rfl 1 (by decide) (by decide) (by decide) (by decide) (rest := [(.ref b34)]) rfl rfl (Nat.le_of_eq rfl) at_29 rfl (fun v37 T37 h37 C37 qq37 => ?_)
      obtain ⟨bc37, rfl, K37, p37_0, p37_1, p37_2, p37_3, p37_4, p37_5⟩ := qq37
      have S_COMPACT_STRINGS := own_stak S_COMPACT_STRINGS K37 (allS (own_plainE E_b34) (all0))
      have S_DEFAULTCAPACITY_EMPTY_ELEMENTDATA := own_stak S_DEFAULTCAPACITY_EMPTY_ELEMENTDATA K37 (allS (own_plainE E_b34) (all0))
      have E_bo33 := E_bo33.keep K37
      have V_bo33 := V_bo33.keep K37 (ninS ne_bo33_b34 nin0)
      have E_b34 := E_b34.keep K37
      have E_b34 := p37_0
      have F_b34_arguments := p37_1
      have F_b34_next := p37_2
      have E_bc37 := p37_3
      have V_bc37 := p37_4
      have g_bc37 := p37_5
      show Go p e below F n0 (fun v _ => v = some (.int (1 : Int32))) T37 (mkF m 32 #[.val (.int i0), .val (.int i1), .val (.int i2), .val (.int i3), .val (.int (0 : Int32)), .val (.int (3 : Int32)), .val (.ref bo33), .unset, .unset, .unset] [(.ref b34)])
      refine C37.astore at_32 rfl rfl (L' := #[.val (.int i0), .val (.int i1), .val (.int i2), .val (.int i3), .val (.int (0 : Int32)), .val (.int (3 : Int32)), .val (.ref bo33), .val (.ref b34), .unset, .unset]) rfl ?_
      refine C37.iconst (1 : Int32) at_34 rfl rfl ?_
      refine C37.istore at_35 rfl (L' := #[.val (.int i0), .val (.int i1), .val (.int i2), .val (.int i3), .val (.int (0 : Int32)), .val (.int (3 : Int32)), .val (.ref bo33), .val (.ref b34), .val (.int (1 : Int32)), .unset]) rfl ?_
      refine C37.iconst (0 : Int32) at_37 rfl rfl ?_
      refine C37.istore at_38 rfl (L' := #[.val (.int i0), .val (.int i1), .val (.int i2), .val (.int i3), .val (.int (0 : Int32)), .val (.int (3 : Int32)), .val (.ref bo33), .val (.ref b34), .val (.int (1 : Int32)), .val (.int (0 : Int32))]) rfl ?_
      refine C37.iload at_40 rfl rfl ?_
      refine C37.aload at_42 rfl rfl rfl ?_
      refine C37.callV (hw _ (List.mem_of_getElem? (i := 86) rfl)) (hw _ (List.mem_of_getElem? (i := 87) rfl)) (hw _ (List.mem_of_getElem? (i := 89) rfl)) (hw _ (List.mem_of_getElem? (i := 88) rfl)) (hw _ (List.mem_of_getElem? (i := 34) rfl)) (hw _ (List.mem_of_getElem? (i := 90) rfl)) E_b34 (by decide) (a := b34) (rm11 l Z a0 hw b34 bc37 (0 : Int32) ko33 (0 : Int32) vs33 .null h37 n0 C37.size F_b34_arguments F_b34_next V_bc37) (argsL := []) pd11 rfl 1 (by decide) (by decide) (by decide) (by decide) (rest := [(.int (1 : Int32))]) rfl rfl (Nat.le_of_eq rfl) at_44 rfl (fun v38 T38 h38 C38 qq38 => ?_)
      obtain ⟨rfl, hh38⟩ := qq38
      have hh38 := hh38.symm; subst hh38
      show Go p e below F n0 (fun v _ => v = some (.int (1 : Int32))) T38 (mkF m 47 #[.val (.int i0), .val (.int i1), .val (.int i2), .val (.int i3), .val (.int (0 : Int32)), .val (.int (3 : Int32)), .val (.ref bo33), .val (.ref b34), .val (.int (1 : Int32)), .val (.int (0 : Int32))] [(.int (f11 (0 : Int32) (0 : Int32))), (.int (1 : Int32))])
      refine C38.iload at_47 rfl rfl ?_
      refine C38.iload at_49 rfl rfl ?_
      refine C38.icmp_ge at_51 (by decide) (by decide : _ = 58) rfl (fun _ => ?_) (fun q => absurd q (by decide))
      refine C38.iconst (0 : Int32) at_58 rfl rfl ?_
      refine C38.icmp_ne at_59 (by decide) (by decide : _ = 66) rfl (fun q => absurd (by decide) q) (fun _ => ?_)
      refine C38.iconst (1 : Int32) at_62 rfl rfl ?_
      refine C38.goto at_63 (by decide) (by decide : _ = 67) ?_
      refine C38.iand at_67 rfl ?_
      rw [own_and11]
      refine C38.istore at_68 rfl (L' := #[.val (.int i0), .val (.int i1), .val (.int i2), .val (.int i3), .val (.int (0 : Int32)), .val (.int (3 : Int32)), .val (.ref bo33), .val (.ref b34), .val (.int (1 : Int32)), .val (.int (0 : Int32))]) rfl ?_
      refine C38.iload at_70 rfl rfl ?_
      refine C38.iconst (1 : Int32) at_72 rfl rfl ?_
      refine C38.icmp_lt at_73 (by decide) (by decide : _ = 91) rfl (fun q => absurd q (by decide)) (fun _ => ?_)
      refine C38.iconst (0 : Int32) at_76 rfl rfl ?_
      refine C38.iload at_77 rfl rfl ?_
      refine C38.icmp_ge at_79 (by decide) (by decide : _ = 91) rfl (fun _ => ?_) (fun q => absurd q (by decide))
      refine C38.iload at_91 rfl rfl ?_
      refine C38.aload at_93 rfl rfl rfl ?_
      refine C38.callV (hw _ (List.mem_of_getElem? (i := 86) rfl)) (hw _ (List.mem_of_getElem? (i := 87) rfl)) (hw _ (List.mem_of_getElem? (i := 89) rfl)) (hw _ (List.mem_of_getElem? (i := 88) rfl)) (hw _ (List.mem_of_getElem? (i := 34) rfl)) (hw _ (List.mem_of_getElem? (i := 90) rfl)) E_b34 (by decide) (a := b34) (rm11 l Z a0 hw b34 bc37 (0 : Int32) ko33 (0 : Int32) vs33 .null h37 n0 C38.size F_b34_arguments F_b34_next V_bc37) (argsL := []) pd11 rfl 1 (by decide) (by decide) (by decide) (by decide) (rest := [(.int (1 : Int32))]) rfl rfl (Nat.le_of_eq rfl) at_95 rfl (fun v39 T39 h39 C39 qq39 => ?_)
      obtain ⟨rfl, hh39⟩ := qq39
      have hh39 := hh39.symm; subst hh39
      show Go p e below F n0 (fun v _ => v = some (.int (1 : Int32))) T39 (mkF m 98 #[.val (.int i0), .val (.int i1), .val (.int i2), .val (.int i3), .val (.int (0 : Int32)), .val (.int (3 : Int32)), .val (.ref bo33), .val (.ref b34), .val (.int (1 : Int32)), .val (.int (0 : Int32))] [(.int (f11 (0 : Int32) (0 : Int32))), (.int (1 : Int32))])
      refine C39.iload at_98 rfl rfl ?_
      refine C39.iload at_100 rfl rfl ?_
      refine C39.icmp_ge at_102 (by decide) (by decide : _ = 109) rfl (fun _ => ?_) (fun q => absurd q (by decide))
      refine C39.iconst (0 : Int32) at_109 rfl rfl ?_
      refine C39.icmp_ne at_110 (by decide) (by decide : _ = 117) rfl (fun q => absurd (by decide) q) (fun _ => ?_)
      refine C39.iconst (1 : Int32) at_113 rfl rfl ?_
      refine C39.goto at_114 (by decide) (by decide : _ = 118) ?_
      refine C39.iand at_118 rfl ?_
      rw [own_and11]
      refine C39.istore at_119 rfl (L' := #[.val (.int i0), .val (.int i1), .val (.int i2), .val (.int i3), .val (.int (0 : Int32)), .val (.int (3 : Int32)), .val (.ref bo33), .val (.ref b34), .val (.int (1 : Int32)), .val (.int (0 : Int32))]) rfl ?_
      refine C39.iload at_121 rfl rfl ?_
      refine C39.aload at_123 rfl rfl rfl ?_
      refine C39.callV (hw _ (List.mem_of_getElem? (i := 86) rfl)) (hw _ (List.mem_of_getElem? (i := 87) rfl)) (hw _ (List.mem_of_getElem? (i := 89) rfl)) (hw _ (List.mem_of_getElem? (i := 88) rfl)) (hw _ (List.mem_of_getElem? (i := 34) rfl)) (hw _ (List.mem_of_getElem? (i := 90) rfl)) E_b34 (by decide) (a := b34) (rm11 l Z a0 hw b34 bc37 (0 : Int32) ko33 (0 : Int32) vs33 .null h37 n0 C39.size F_b34_arguments F_b34_next V_bc37) (argsL := []) pd11 rfl 1 (by decide) (by decide) (by decide) (by decide) (rest := [(.int (1 : Int32))]) rfl rfl (Nat.le_of_eq rfl) at_125 rfl (fun v40 T40 h40 C40 qq40 => ?_)
      obtain ⟨rfl, hh40⟩ := qq40
      have hh40 := hh40.symm; subst hh40
      show Go p e below F n0 (fun v _ => v = some (.int (1 : Int32))) T40 (mkF m 128 #[.val (.int i0), .val (.int i1), .val (.int i2), .val (.int i3), .val (.int (0 : Int32)), .val (.int (3 : Int32)), .val (.ref bo33), .val (.ref b34), .val (.int (1 : Int32)), .val (.int (0 : Int32))] [(.int (f11 (0 : Int32) (0 : Int32))), (.int (1 : Int32))])
      refine C40.iload at_128 rfl rfl ?_
      refine C40.iload at_130 rfl rfl ?_
      refine C40.icmp_ge at_132 (by decide) (by decide : _ = 139) rfl (fun _ => ?_) (fun q => absurd q (by decide))
      refine C40.iconst (0 : Int32) at_139 rfl rfl ?_
      refine C40.icmp_ne at_140 (by decide) (by decide : _ = 147) rfl (fun q => absurd (by decide) q) (fun _ => ?_)
      refine C40.iconst (1 : Int32) at_143 rfl rfl ?_
      refine C40.goto at_144 (by decide) (by decide : _ = 148) ?_
      refine C40.iand at_148 rfl ?_
      rw [own_and11]
      refine C40.istore at_149 rfl (L' := #[.val (.int i0), .val (.int i1), .val (.int i2), .val (.int i3), .val (.int (0 : Int32)), .val (.int (3 : Int32)), .val (.ref bo33), .val (.ref b34), .val (.int (1 : Int32)), .val (.int (0 : Int32))]) rfl ?_
      refine C40.iload at_151 rfl rfl ?_
      refine C40.iconst (2 : Int32) at_153 rfl rfl ?_
      refine C40.icmp_lt at_154 (by decide) (by decide : _ = 172) rfl (fun q => absurd q (by decide)) (fun _ => ?_)
      refine C40.iconst (1 : Int32) at_157 rfl rfl ?_
      refine C40.iload at_158 rfl rfl ?_
      refine C40.icmp_ge at_160 (by decide) (by decide : _ = 172) rfl (fun _ => ?_) (fun q => absurd q (by decide))
      refine C40.iload at_172 rfl rfl ?_
      refine C40.aload at_174 rfl rfl rfl ?_
      refine C40.callV (hw _ (List.mem_of_getElem? (i := 86) rfl)) (hw _ (List.mem_of_getElem? (i := 87) rfl)) (hw _ (List.mem_of_getElem? (i := 89) rfl)) (hw _ (List.mem_of_getElem? (i := 88) rfl)) (hw _ (List.mem_of_getElem? (i := 34) rfl)) (hw _ (List.mem_of_getElem? (i := 90) rfl)) E_b34 (by decide) (a := b34) (rm11 l Z a0 hw b34 bc37 (0 : Int32) ko33 (0 : Int32) vs33 .null h37 n0 C40.size F_b34_arguments F_b34_next V_bc37) (argsL := []) pd11 rfl 1 (by decide) (by decide) (by decide) (by decide) (rest := [(.int (1 : Int32))]) rfl rfl (Nat.le_of_eq rfl) at_176 rfl (fun v41 T41 h41 C41 qq41 => ?_)
      obtain ⟨rfl, hh41⟩ := qq41
      have hh41 := hh41.symm; subst hh41
      show Go p e below F n0 (fun v _ => v = some (.int (1 : Int32))) T41 (mkF m 179 #[.val (.int i0), .val (.int i1), .val (.int i2), .val (.int i3), .val (.int (0 : Int32)), .val (.int (3 : Int32)), .val (.ref bo33), .val (.ref b34), .val (.int (1 : Int32)), .val (.int (0 : Int32))] [(.int (f11 (0 : Int32) (0 : Int32))), (.int (1 : Int32))])
      refine C41.iload at_179 rfl rfl ?_
      refine C41.iload at_181 rfl rfl ?_
      refine C41.icmp_ge at_183 (by decide) (by decide : _ = 190) rfl (fun _ => ?_) (fun q => absurd q (by decide))
      refine C41.iconst (0 : Int32) at_190 rfl rfl ?_
      refine C41.icmp_ne at_191 (by decide) (by decide : _ = 198) rfl (fun q => absurd (by decide) q) (fun _ => ?_)
      refine C41.iconst (1 : Int32) at_194 rfl rfl ?_
      refine C41.goto at_195 (by decide) (by decide : _ = 199) ?_
      refine C41.iand at_199 rfl ?_
      rw [own_and11]
      refine C41.istore at_200 rfl (L' := #[.val (.int i0), .val (.int i1), .val (.int i2), .val (.int i3), .val (.int (0 : Int32)), .val (.int (3 : Int32)), .val (.ref bo33), .val (.ref b34), .val (.int (1 : Int32)), .val (.int (0 : Int32))]) rfl ?_
      refine C41.iload at_202 rfl rfl ?_
      refine C41.iconst (3 : Int32) at_204 rfl rfl ?_
      refine C41.icmp_lt at_205 (by decide) (by decide : _ = 223) rfl (fun q => absurd q (by decide)) (fun _ => ?_)
      refine C41.iconst (2 : Int32) at_208 rfl rfl ?_
      refine C41.iload at_209 rfl rfl ?_
      refine C41.icmp_ge at_211 (by decide) (by decide : _ = 223) rfl (fun _ => ?_) (fun q => absurd q (by decide))
      refine C41.iload at_223 rfl rfl ?_
      refine C41.aload at_225 rfl rfl rfl ?_
      refine C41.callV (hw _ (List.mem_of_getElem? (i := 86) rfl)) (hw _ (List.mem_of_getElem? (i := 87) rfl)) (hw _ (List.mem_of_getElem? (i := 89) rfl)) (hw _ (List.mem_of_getElem? (i := 88) rfl)) (hw _ (List.mem_of_getElem? (i := 34) rfl)) (hw _ (List.mem_of_getElem? (i := 90) rfl)) E_b34 (by decide) (a := b34) (rm11 l Z a0 hw b34 bc37 (0 : Int32) ko33 (0 : Int32) vs33 .null h37 n0 C41.size F_b34_arguments F_b34_next V_bc37) (argsL := []) pd11 rfl 1 (by decide) (by decide) (by decide) (by decide) (rest := [(.int (1 : Int32))]) rfl rfl (Nat.le_of_eq rfl) at_227 rfl (fun v42 T42 h42 C42 qq42 => ?_)
      obtain ⟨rfl, hh42⟩ := qq42
      have hh42 := hh42.symm; subst hh42
      show Go p e below F n0 (fun v _ => v = some (.int (1 : Int32))) T42 (mkF m 230 #[.val (.int i0), .val (.int i1), .val (.int i2), .val (.int i3), .val (.int (0 : Int32)), .val (.int (3 : Int32)), .val (.ref bo33), .val (.ref b34), .val (.int (1 : Int32)), .val (.int (0 : Int32))] [(.int (f11 (0 : Int32) (0 : Int32))), (.int (1 : Int32))])
      refine C42.iload at_230 rfl rfl ?_
      refine C42.iload at_232 rfl rfl ?_
      refine C42.icmp_ge at_234 (by decide) (by decide : _ = 241) rfl (fun _ => ?_) (fun q => absurd q (by decide))
      refine C42.iconst (0 : Int32) at_241 rfl rfl ?_
      refine C42.icmp_ne at_242 (by decide) (by decide : _ = 249) rfl (fun q => absurd (by decide) q) (fun _ => ?_)
      refine C42.iconst (1 : Int32) at_245 rfl rfl ?_
      refine C42.goto at_246 (by decide) (by decide : _ = 250) ?_
      refine C42.iand at_250 rfl ?_
      rw [own_and11]
      refine C42.istore at_251 rfl (L' := #[.val (.int i0), .val (.int i1), .val (.int i2), .val (.int i3), .val (.int (0 : Int32)), .val (.int (3 : Int32)), .val (.ref bo33), .val (.ref b34), .val (.int (1 : Int32)), .val (.int (0 : Int32))]) rfl ?_
      refine C42.iload at_253 rfl rfl ?_
      exact C42.retN (t := .boolean) at_255 rfl (by simp) (by decide) (by decide) (w := (1 : Int32)) rfl rfl
  · subst e
    rcases own_c4 hv2 with e | e | e | e
    · subst e
      refine C0.iload at_10 rfl rfl ?_
      refine C0.iloadN at_12 rfl rfl ?_
      refine C0.callS (hw _ (List.mem_of_getElem? (i := 0) rfl)) (hw _ (List.mem_of_getElem? (i := 1) rfl)) (hw _ (List.mem_of_getElem? (i := 2) rfl)) (hw _ (List.mem_of_getElem? (i := 3) rfl)) (by decide) (rm1 l Z a0 hw (1 : Int32) i2 cs h0 n0 C0.size S_COMPACT_STRINGS hcs (Or.inr (Or.inl rfl))) (argsL := [(.int (1 : Int32)), (.int i2)]) pd1 rfl 0 (by decide) (by decide) (by decide) (by decide) (rest := []) rfl rfl (Nat.le_of_eq rfl) at_13 rfl (fun v43 T43 h43 C43 qq43 => ?_)
      obtain ⟨bo43, ko43, vs43, rfl, K43, p43_0, p43_1, p43_2, p43_3⟩ := qq43
      have K43 := ext_keep K43
      have S_COMPACT_STRINGS := S_COMPACT_STRINGS.ext K43
      have S_DEFAULTCAPACITY_EMPTY_ELEMENTDATA := S_DEFAULTCAPACITY_EMPTY_ELEMENTDATA.ext K43
      have E_bo43 := p43_0
      have V_bo43 := p43_1
      have hr := p43_2
      have g_bo43 := p43_3
      show Go p e below F n0 (fun v _ => v = some (.int (1 : Int32))) T43 (mkF m 16 #[.val (.int i0), .val (.int i1), .val (.int i2), .val (.int i3), .val (.int (1 : Int32)), .val (.int (0 : Int32)), .unset, .unset, .unset, .unset] [(.ref bo43)])
      refine C43.astore at_16 rfl rfl (L' := #[.val (.int i0), .val (.int i1), .val (.int i2), .val (.int i3), .val (.int (1 : Int32)), .val (.int (0 : Int32)), .val (.ref bo43), .unset, .unset, .unset]) rfl ?_
      refine C43.new (hw _ (List.mem_of_getElem? (i := 32) rfl)) (hw _ (List.mem_of_getElem? (i := 33) rfl)) (hw _ (List.mem_of_getElem? (i := 34) rfl)) at_18 rfl (by decide) (by decide) (fun T44 h44 b44 C44 e44 g_b44 E44 E_b44 D44 => ?_)
      have ne_bo43_b44 : bo43 ≠ b44 := Nat.ne_of_lt (Nat.lt_of_lt_of_eq E_bo43.lt e44.symm)
      have S_COMPACT_STRINGS := S_COMPACT_STRINGS.ext E44
      have S_DEFAULTCAPACITY_EMPTY_ELEMENTDATA := S_DEFAULTCAPACITY_EMPTY_ELEMENTDATA.ext E44
      have E_bo43 := E_bo43.ext E44
      have V_bo43 := V_bo43.ext E44
      have F_b44_operands : Fld Z h44 b44 "com/example/bouncer/bouncer/cli/Arguments" "operands" "Ljava/util/List;" .null := D44 (Or.inr (hw _ (List.mem_of_getElem? (i := 68) rfl))) (ty := (.object "java/util/List")) (by decide)
      have F_b44_command : Fld Z h44 b44 "com/example/bouncer/bouncer/cli/Arguments" "command" "Ljava/lang/String;" .null := D44 (Or.inr (hw _ (List.mem_of_getElem? (i := 70) rfl))) (ty := (.object "java/lang/String")) (by decide)
      have F_b44_usage : Fld Z h44 b44 "com/example/bouncer/bouncer/cli/Arguments" "usage" "Ljava/lang/String;" .null := D44 (Or.inr (hw _ (List.mem_of_getElem? (i := 72) rfl))) (ty := (.object "java/lang/String")) (by decide)
      have F_b44_arguments : Fld Z h44 b44 "com/example/bouncer/bouncer/cli/Arguments" "arguments" "[Ljava/lang/String;" .null := D44 (Or.inr (hw _ (List.mem_of_getElem? (i := 83) rfl))) (ty := (.array (.object "java/lang/String"))) (by decide)
      have F_b44_maxOperands : Fld Z h44 b44 "com/example/bouncer/bouncer/cli/Arguments" "maxOperands" "I" (.int (0 : Int32)) := D44 (Or.inr (hw _ (List.mem_of_getElem? (i := 85) rfl))) (ty := .int) (by decide)
      have F_b44_next : Fld Z h44 b44 "com/example/bouncer/bouncer/cli/Arguments" "next" "I" (.int (0 : Int32)) := D44 (Or.inl (hw _ (List.mem_of_getElem? (i := 92) rfl))) (ty := .int) (by decide)
      refine C44.dup at_21 rfl rfl ?_
      refine C44.ldcStr (hw _ (List.mem_of_getElem? (i := 35) rfl)) (own_wS hw) 4 (by decide) (by decide) (by decide) (by decide) at_22 rfl (fun s45 T45 h45 C45 E45 => ?_)
      have S_COMPACT_STRINGS := S_COMPACT_STRINGS.ext E45
      have S_DEFAULTCAPACITY_EMPTY_ELEMENTDATA := S_DEFAULTCAPACITY_EMPTY_ELEMENTDATA.ext E45
      have E_bo43 := E_bo43.ext E45
      have V_bo43 := V_bo43.ext E45
      have E_b44 := E_b44.ext E45
      have F_b44_operands := F_b44_operands.ext E45
      have F_b44_command := F_b44_command.ext E45
      have F_b44_usage := F_b44_usage.ext E45
      have F_b44_arguments := F_b44_arguments.ext E45
      have F_b44_maxOperands := F_b44_maxOperands.ext E45
      have F_b44_next := F_b44_next.ext E45
      refine C45.ldcStr (hw _ (List.mem_of_getElem? (i := 38) rfl)) (own_wS hw) 4 (by decide) (by decide) (by decide) (by decide) at_24 rfl (fun s46 T46 h46 C46 E46 => ?_)
      have S_COMPACT_STRINGS := S_COMPACT_STRINGS.ext E46
      have S_DEFAULTCAPACITY_EMPTY_ELEMENTDATA := S_DEFAULTCAPACITY_EMPTY_ELEMENTDATA.ext E46
      have E_bo43 := E_bo43.ext E46
      have V_bo43 := V_bo43.ext E46
      have E_b44 := E_b44.ext E46
      have F_b44_operands := F_b44_operands.ext E46
      have F_b44_command := F_b44_command.ext E46
      have F_b44_usage := F_b44_usage.ext E46
      have F_b44_arguments := F_b44_arguments.ext E46
      have F_b44_maxOperands := F_b44_maxOperands.ext E46
      have F_b44_next := F_b44_next.ext E46
      refine C46.aload at_26 rfl rfl rfl ?_
      refine C46.iloadN at_28 rfl rfl ?_
      refine C46.callN rfl (hw _ (List.mem_of_getElem? (i := 39) rfl)) (hw _ (List.mem_of_getElem? (i := 40) rfl)) (hw _ (List.mem_of_getElem? (i := 34) rfl)) (hw _ (List.mem_of_getElem? (i := 41) rfl)) (by decide) (a := b44) (rm7 l Z a0 hw b44 s45 s46 bo43 i3 de .null .null .null .null (.int (0 : Int32)) ko43 (1 : Int32) vs43 .null h46 n0 C46.size E_b44 F_b44_operands F_b44_command F_b44_usage F_b44_arguments F_b44_maxOperands F_b44_next g_b44 S_DEFAULTCAPACITY_EMPTY_ELEMENTDATA E_bo43 V_bo43 (by decide)) (argsL := [(.ref s45), (.ref s46), (.ref bo43), (.int i3)]) pd7 rfl 1 (by decide) (by decide) (by decide) (by decide) (rest := [(.ref b44)]) rfl rfl (Nat.le_of_eq rfl) at_29 rfl (fun v47 T47 h47 C47 qq47 => ?_)
      obtain ⟨bc47, rfl, K47, p47_0, p47_1, p47_2, p47_3, p47_4, p47_5⟩ := qq47
      have S_COMPACT_STRINGS := own_stak S_COMPACT_STRINGS K47 (allS (own_plainE E_b44) (all0))
      have S_DEFAULTCAPACITY_EMPTY_ELEMENTDATA := own_stak S_DEFAULTCAPACITY_EMPTY_ELEMENTDATA K47 (allS (own_plainE E_b44) (all0))
      have E_bo43 := E_bo43.keep K47
      have V_bo43 := V_bo43.keep K47 (ninS ne_bo43_b44 nin0)
      have E_b44 := E_b44.keep K47
      have E_b44 := p47_0
      have F_b44_arguments := p47_1
      have F_b44_next := p47_2
      have E_bc47 := p47_3
      have V_bc47 := p47_4
      have g_bc47 := p47_5
      show Go p e below F n0 (fun v _ => v = some (.int (1 : Int32))) T47 (mkF m 32 #[.val (.int i0), .val (.int i1), .val (.int i2), .val (.int i3), .val (.int (1 : Int32)), .val (.int (0 : Int32)), .val (.ref bo43), .unset, .unset, .unset] [(.ref b44)])
      refine C47.astore at_32 rfl rfl (L' := #[.val (.int i0), .val (.int i1), .val (.int i2), .val (.int i3), .val (.int (1 : Int32)), .val (.int (0 : Int32)), .val (.ref bo43), .val (.ref b44), .unset, .unset]) rfl ?_
      refine C47.iconst (1 : Int32) at_34 rfl rfl ?_
      refine C47.istore at_35 rfl (L' := #[.val (.int i0), .val (.int i1), .val (.int i2), .val (.int i3), .val (.int (1 : Int32)), .val (.int (0 : Int32)), .val (.ref bo43), .val (.ref b44), .val (.int (1 : Int32)), .unset]) rfl ?_
      refine C47.iconst (0 : Int32) at_37 rfl rfl ?_
      refine C47.istore at_38 rfl (L' := #[.val (.int i0), .val (.int i1), .val (.int i2), .val (.int i3), .val (.int (1 : Int32)), .val (.int (0 : Int32)), .val (.ref bo43), .val (.ref b44), .val (.int (1 : Int32)), .val (.int (0 : Int32))]) rfl ?_
      refine C47.iload at_40 rfl rfl ?_
      refine C47.aload at_42 rfl rfl rfl ?_
      refine C47.callV (hw _ (List.mem_of_getElem? (i := 86) rfl)) (hw _ (List.mem_of_getElem? (i := 87) rfl)) (hw _ (List.mem_of_getElem? (i := 89) rfl)) (hw _ (List.mem_of_getElem? (i := 88) rfl)) (hw _ (List.mem_of_getElem? (i := 34) rfl)) (hw _ (List.mem_of_getElem? (i := 90) rfl)) E_b44 (by decide) (a := b44) (rm11 l Z a0 hw b44 bc47 (0 : Int32) ko43 (1 : Int32) vs43 .null h47 n0 C47.size F_b44_arguments F_b44_next V_bc47) (argsL := []) pd11 rfl 1 (by decide) (by decide) (by decide) (by decide) (rest := [(.int (1 : Int32))]) rfl rfl (Nat.le_of_eq rfl) at_44 rfl (fun v48 T48 h48 C48 qq48 => ?_)
      obtain ⟨rfl, hh48⟩ := qq48
      have hh48 := hh48.symm; subst hh48
      show Go p e below F n0 (fun v _ => v = some (.int (1 : Int32))) T48 (mkF m 47 #[.val (.int i0), .val (.int i1), .val (.int i2), .val (.int i3), .val (.int (1 : Int32)), .val (.int (0 : Int32)), .val (.ref bo43), .val (.ref b44), .val (.int (1 : Int32)), .val (.int (0 : Int32))] [(.int (f11 (0 : Int32) (1 : Int32))), (.int (1 : Int32))])
      refine C48.iload at_47 rfl rfl ?_
      refine C48.iload at_49 rfl rfl ?_
      refine C48.icmp_ge at_51 (by decide) (by decide : _ = 58) rfl (fun q => absurd (by decide) q) (fun _ => ?_)
      refine C48.iconst (1 : Int32) at_54 rfl rfl ?_
      refine C48.goto at_55 (by decide) (by decide : _ = 59) ?_
      refine C48.icmp_ne at_59 (by decide) (by decide : _ = 66) rfl (fun q => absurd (by decide) q) (fun _ => ?_)
      refine C48.iconst (1 : Int32) at_62 rfl rfl ?_
      refine C48.goto at_63 (by decide) (by decide : _ = 67) ?_
      refine C48.iand at_67 rfl ?_
      rw [own_and11]
      refine C48.istore at_68 rfl (L' := #[.val (.int i0), .val (.int i1), .val (.int i2), .val (.int i3), .val (.int (1 : Int32)), .val (.int (0 : Int32)), .val (.ref bo43), .val (.ref b44), .val (.int (1 : Int32)), .val (.int (0 : Int32))]) rfl ?_
      refine C48.iload at_70 rfl rfl ?_
      refine C48.iconst (1 : Int32) at_72 rfl rfl ?_
      refine C48.icmp_lt at_73 (by decide) (by decide : _ = 91) rfl (fun _ => ?_) (fun q => absurd (by decide) q)
      refine C48.iload at_91 rfl rfl ?_
      refine C48.aload at_93 rfl rfl rfl ?_
      refine C48.callV (hw _ (List.mem_of_getElem? (i := 86) rfl)) (hw _ (List.mem_of_getElem? (i := 87) rfl)) (hw _ (List.mem_of_getElem? (i := 89) rfl)) (hw _ (List.mem_of_getElem? (i := 88) rfl)) (hw _ (List.mem_of_getElem? (i := 34) rfl)) (hw _ (List.mem_of_getElem? (i := 90) rfl)) E_b44 (by decide) (a := b44) (rm11 l Z a0 hw b44 bc47 (0 : Int32) ko43 (1 : Int32) vs43 .null h47 n0 C48.size F_b44_arguments F_b44_next V_bc47) (argsL := []) pd11 rfl 1 (by decide) (by decide) (by decide) (by decide) (rest := [(.int (1 : Int32))]) rfl rfl (Nat.le_of_eq rfl) at_95 rfl (fun v49 T49 h49 C49 qq49 => ?_)
      obtain ⟨rfl, hh49⟩ := qq49
      have hh49 := hh49.symm; subst hh49
      show Go p e below F n0 (fun v _ => v = some (.int (1 : Int32))) T49 (mkF m 98 #[.val (.int i0), .val (.int i1), .val (.int i2), .val (.int i3), .val (.int (1 : Int32)), .val (.int (0 : Int32)), .val (.ref bo43), .val (.ref b44), .val (.int (1 : Int32)), .val (.int (0 : Int32))] [(.int (f11 (0 : Int32) (1 : Int32))), (.int (1 : Int32))])
      refine C49.iload at_98 rfl rfl ?_
      refine C49.iload at_100 rfl rfl ?_
      refine C49.icmp_ge at_102 (by decide) (by decide : _ = 109) rfl (fun q => absurd (by decide) q) (fun _ => ?_)
      refine C49.iconst (1 : Int32) at_105 rfl rfl ?_
      refine C49.goto at_106 (by decide) (by decide : _ = 110) ?_
      refine C49.icmp_ne at_110 (by decide) (by decide : _ = 117) rfl (fun q => absurd (by decide) q) (fun _ => ?_)
      refine C49.iconst (1 : Int32) at_113 rfl rfl ?_
      refine C49.goto at_114 (by decide) (by decide : _ = 118) ?_
      refine C49.iand at_118 rfl ?_
      rw [own_and11]
      refine C49.istore at_119 rfl (L' := #[.val (.int i0), .val (.int i1), .val (.int i2), .val (.int i3), .val (.int (1 : Int32)), .val (.int (0 : Int32)), .val (.ref bo43), .val (.ref b44), .val (.int (1 : Int32)), .val (.int (0 : Int32))]) rfl ?_
      refine C49.iload at_121 rfl rfl ?_
      refine C49.aload at_123 rfl rfl rfl ?_
      refine C49.callV (hw _ (List.mem_of_getElem? (i := 86) rfl)) (hw _ (List.mem_of_getElem? (i := 87) rfl)) (hw _ (List.mem_of_getElem? (i := 89) rfl)) (hw _ (List.mem_of_getElem? (i := 88) rfl)) (hw _ (List.mem_of_getElem? (i := 34) rfl)) (hw _ (List.mem_of_getElem? (i := 90) rfl)) E_b44 (by decide) (a := b44) (rm11 l Z a0 hw b44 bc47 (0 : Int32) ko43 (1 : Int32) vs43 .null h47 n0 C49.size F_b44_arguments F_b44_next V_bc47) (argsL := []) pd11 rfl 1 (by decide) (by decide) (by decide) (by decide) (rest := [(.int (1 : Int32))]) rfl rfl (Nat.le_of_eq rfl) at_125 rfl (fun v50 T50 h50 C50 qq50 => ?_)
      obtain ⟨rfl, hh50⟩ := qq50
      have hh50 := hh50.symm; subst hh50
      show Go p e below F n0 (fun v _ => v = some (.int (1 : Int32))) T50 (mkF m 128 #[.val (.int i0), .val (.int i1), .val (.int i2), .val (.int i3), .val (.int (1 : Int32)), .val (.int (0 : Int32)), .val (.ref bo43), .val (.ref b44), .val (.int (1 : Int32)), .val (.int (0 : Int32))] [(.int (f11 (0 : Int32) (1 : Int32))), (.int (1 : Int32))])
      refine C50.iload at_128 rfl rfl ?_
      refine C50.iload at_130 rfl rfl ?_
      refine C50.icmp_ge at_132 (by decide) (by decide : _ = 139) rfl (fun q => absurd (by decide) q) (fun _ => ?_)
      refine C50.iconst (1 : Int32) at_135 rfl rfl ?_
      refine C50.goto at_136 (by decide) (by decide : _ = 140) ?_
      refine C50.icmp_ne at_140 (by decide) (by decide : _ = 147) rfl (fun q => absurd (by decide) q) (fun _ => ?_)
      refine C50.iconst (1 : Int32) at_143 rfl rfl ?_
      refine C50.goto at_144 (by decide) (by decide : _ = 148) ?_
      refine C50.iand at_148 rfl ?_
      rw [own_and11]
      refine C50.istore at_149 rfl (L' := #[.val (.int i0), .val (.int i1), .val (.int i2), .val (.int i3), .val (.int (1 : Int32)), .val (.int (0 : Int32)), .val (.ref bo43), .val (.ref b44), .val (.int (1 : Int32)), .val (.int (0 : Int32))]) rfl ?_
      refine C50.iload at_151 rfl rfl ?_
      refine C50.iconst (2 : Int32) at_153 rfl rfl ?_
      refine C50.icmp_lt at_154 (by decide) (by decide : _ = 172) rfl (fun _ => ?_) (fun q => absurd (by decide) q)
      refine C50.iload at_172 rfl rfl ?_
      refine C50.aload at_174 rfl rfl rfl ?_
      refine C50.callV (hw _ (List.mem_of_getElem? (i := 86) rfl)) (hw _ (List.mem_of_getElem? (i := 87) rfl)) (hw _ (List.mem_of_getElem? (i := 89) rfl)) (hw _ (List.mem_of_getElem? (i := 88) rfl)) (hw _ (List.mem_of_getElem? (i := 34) rfl)) (hw _ (List.mem_of_getElem? (i := 90) rfl)) E_b44 (by decide) (a := b44) (rm11 l Z a0 hw b44 bc47 (0 : Int32) ko43 (1 : Int32) vs43 .null h47 n0 C50.size F_b44_arguments F_b44_next V_bc47) (argsL := []) pd11 rfl 1 (by decide) (by decide) (by decide) (by decide) (rest := [(.int (1 : Int32))]) rfl rfl (Nat.le_of_eq rfl) at_176 rfl (fun v51 T51 h51 C51 qq51 => ?_)
      obtain ⟨rfl, hh51⟩ := qq51
      have hh51 := hh51.symm; subst hh51
      show Go p e below F n0 (fun v _ => v = some (.int (1 : Int32))) T51 (mkF m 179 #[.val (.int i0), .val (.int i1), .val (.int i2), .val (.int i3), .val (.int (1 : Int32)), .val (.int (0 : Int32)), .val (.ref bo43), .val (.ref b44), .val (.int (1 : Int32)), .val (.int (0 : Int32))] [(.int (f11 (0 : Int32) (1 : Int32))), (.int (1 : Int32))])
      refine C51.iload at_179 rfl rfl ?_
      refine C51.iload at_181 rfl rfl ?_
      refine C51.icmp_ge at_183 (by decide) (by decide : _ = 190) rfl (fun q => absurd (by decide) q) (fun _ => ?_)
      refine C51.iconst (1 : Int32) at_186 rfl rfl ?_
      refine C51.goto at_187 (by decide) (by decide : _ = 191) ?_
      refine C51.icmp_ne at_191 (by decide) (by decide : _ = 198) rfl (fun q => absurd (by decide) q) (fun _ => ?_)
      refine C51.iconst (1 : Int32) at_194 rfl rfl ?_
      refine C51.goto at_195 (by decide) (by decide : _ = 199) ?_
      refine C51.iand at_199 rfl ?_
      rw [own_and11]
      refine C51.istore at_200 rfl (L' := #[.val (.int i0), .val (.int i1), .val (.int i2), .val (.int i3), .val (.int (1 : Int32)), .val (.int (0 : Int32)), .val (.ref bo43), .val (.ref b44), .val (.int (1 : Int32)), .val (.int (0 : Int32))]) rfl ?_
      refine C51.iload at_202 rfl rfl ?_
      refine C51.iconst (3 : Int32) at_204 rfl rfl ?_
      refine C51.icmp_lt at_205 (by decide) (by decide : _ = 223) rfl (fun _ => ?_) (fun q => absurd (by decide) q)
      refine C51.iload at_223 rfl rfl ?_
      refine C51.aload at_225 rfl rfl rfl ?_
      refine C51.callV (hw _ (List.mem_of_getElem? (i := 86) rfl)) (hw _ (List.mem_of_getElem? (i := 87) rfl)) (hw _ (List.mem_of_getElem? (i := 89) rfl)) (hw _ (List.mem_of_getElem? (i := 88) rfl)) (hw _ (List.mem_of_getElem? (i := 34) rfl)) (hw _ (List.mem_of_getElem? (i := 90) rfl)) E_b44 (by decide) (a := b44) (rm11 l Z a0 hw b44 bc47 (0 : Int32) ko43 (1 : Int32) vs43 .null h47 n0 C51.size F_b44_arguments F_b44_next V_bc47) (argsL := []) pd11 rfl 1 (by decide) (by decide) (by decide) (by decide) (rest := [(.int (1 : Int32))]) rfl rfl (Nat.le_of_eq rfl) at_227 rfl (fun v52 T52 h52 C52 qq52 => ?_)
      obtain ⟨rfl, hh52⟩ := qq52
      have hh52 := hh52.symm; subst hh52
      show Go p e below F n0 (fun v _ => v = some (.int (1 : Int32))) T52 (mkF m 230 #[.val (.int i0), .val (.int i1), .val (.int i2), .val (.int i3), .val (.int (1 : Int32)), .val (.int (0 : Int32)), .val (.ref bo43), .val (.ref b44), .val (.int (1 : Int32)), .val (.int (0 : Int32))] [(.int (f11 (0 : Int32) (1 : Int32))), (.int (1 : Int32))])
      refine C52.iload at_230 rfl rfl ?_
      refine C52.iload at_232 rfl rfl ?_
      refine C52.icmp_ge at_234 (by decide) (by decide : _ = 241) rfl (fun q => absurd (by decide) q) (fun _ => ?_)
      refine C52.iconst (1 : Int32) at_237 rfl rfl ?_
      refine C52.goto at_238 (by decide) (by decide : _ = 242) ?_
      refine C52.icmp_ne at_242 (by decide) (by decide : _ = 249) rfl (fun q => absurd (by decide) q) (fun _ => ?_)
      refine C52.iconst (1 : Int32) at_245 rfl rfl ?_
      refine C52.goto at_246 (by decide) (by decide : _ = 250) ?_
      refine C52.iand at_250 rfl ?_
      rw [own_and11]
      refine C52.istore at_251 rfl (L' := #[.val (.int i0), .val (.int i1), .val (.int i2), .val (.int i3), .val (.int (1 : Int32)), .val (.int (0 : Int32)), .val (.ref bo43), .val (.ref b44), .val (.int (1 : Int32)), .val (.int (0 : Int32))]) rfl ?_
      refine C52.iload at_253 rfl rfl ?_
      exact C52.retN (t := .boolean) at_255 rfl (by simp) (by decide) (by decide) (w := (1 : Int32)) rfl rfl
    · subst e
      refine C0.iload at_10 rfl rfl ?_
      refine C0.iloadN at_12 rfl rfl ?_
      refine C0.callS (hw _ (List.mem_of_getElem? (i := 0) rfl)) (hw _ (List.mem_of_getElem? (i := 1) rfl)) (hw _ (List.mem_of_getElem? (i := 2) rfl)) (hw _ (List.mem_of_getElem? (i := 3) rfl)) (by decide) (rm1 l Z a0 hw (1 : Int32) i2 cs h0 n0 C0.size S_COMPACT_STRINGS hcs (Or.inr (Or.inl rfl))) (argsL := [(.int (1 : Int32)), (.int i2)]) pd1 rfl 0 (by decide) (by decide) (by decide) (by decide) (rest := []) rfl rfl (Nat.le_of_eq rfl) at_13 rfl (fun v53 T53 h53 C53 qq53 => ?_)
      obtain ⟨bo53, ko53, vs53, rfl, K53, p53_0, p53_1, p53_2, p53_3⟩ := qq53
      have K53 := ext_keep K53
      have S_COMPACT_STRINGS := S_COMPACT_STRINGS.ext K53
      have S_DEFAULTCAPACITY_EMPTY_ELEMENTDATA := S_DEFAULTCAPACITY_EMPTY_ELEMENTDATA.ext K53
      have E_bo53 := p53_0
      have V_bo53 := p53_1
      have hr := p53_2
      have g_bo53 := p53_3
      show Go p e below F n0 (fun v _ => v = some (.int (1 : Int32))) T53 (mkF m 16 #[.val (.int i0), .val (.int i1), .val (.int i2), .val (.int i3), .val (.int (1 : Int32)), .val (.int (1 : Int32)), .unset, .unset, .unset, .unset] [(.ref bo53)])
      refine C53.astore at_16 rfl rfl (L' := #[.val (.int i0), .val (.int i1), .val (.int i2), .val (.int i3), .val (.int (1 : Int32)), .val (.int (1 : Int32)), .val (.ref bo53), .unset, .unset, .unset]) rfl ?_
      refine C53.new (hw _ (List.mem_of_getElem? (i := 32) rfl)) (hw _ (List.mem_of_getElem? (i := 33) rfl)) (hw _ (List.mem_of_getElem? (i := 34) rfl)) at_18 rfl (by decide) (by decide) (fun T54 h54 b54 C54 e54 g_b54 E54 E_b54 D54 => ?_)
      have ne_bo53_b54 : bo53 ≠ b54 := Nat.ne_of_lt (Nat.lt_of_lt_of_eq E_bo53.lt e54.symm)
      have S_COMPACT_STRINGS := S_COMPACT_STRINGS.ext E54
      have S_DEFAULTCAPACITY_EMPTY_ELEMENTDATA := S_DEFAULTCAPACITY_EMPTY_ELEMENTDATA.ext E54
      have E_bo53 := E_bo53.ext E54
      have V_bo53 := V_bo53.ext E54
      have F_b54_operands : Fld Z h54 b54 "com/example/bouncer/bouncer/cli/Arguments" "operands" "Ljava/util/List;" .null := D54 (Or.inr (hw _ (List.mem_of_getElem? (i := 68) rfl))) (ty := (.object "java/util/List")) (by decide)
      have F_b54_command : Fld Z h54 b54 "com/example/bouncer/bouncer/cli/Arguments" "command" "Ljava/lang/String;" .null := D54 (Or.inr (hw _ (List.mem_of_getElem? (i := 70) rfl))) (ty := (.object "java/lang/String")) (by decide)
      have F_b54_usage : Fld Z h54 b54 "com/example/bouncer/bouncer/cli/Arguments" "usage" "Ljava/lang/String;" .null := D54 (Or.inr (hw _ (List.mem_of_getElem? (i := 72) rfl))) (ty := (.object "java/lang/String")) (by decide)
      have F_b54_arguments : Fld Z h54 b54 "com/example/bouncer/bouncer/cli/Arguments" "arguments" "[Ljava/lang/String;" .null := D54 (Or.inr (hw _ (List.mem_of_getElem? (i := 83) rfl))) (ty := (.array (.object "java/lang/String"))) (by decide)
      have F_b54_maxOperands : Fld Z h54 b54 "com/example/bouncer/bouncer/cli/Arguments" "maxOperands" "I" (.int (0 : Int32)) := D54 (Or.inr (hw _ (List.mem_of_getElem? (i := 85) rfl))) (ty := .int) (by decide)
      have F_b54_next : Fld Z h54 b54 "com/example/bouncer/bouncer/cli/Arguments" "next" "I" (.int (0 : Int32)) := D54 (Or.inl (hw _ (List.mem_of_getElem? (i := 92) rfl))) (ty := .int) (by decide)
      refine C54.dup at_21 rfl rfl ?_
      refine C54.ldcStr (hw _ (List.mem_of_getElem? (i := 35) rfl)) (own_wS hw) 4 (by decide) (by decide) (by decide) (by decide) at_22 rfl (fun s55 T55 h55 C55 E55 => ?_)
      have S_COMPACT_STRINGS := S_COMPACT_STRINGS.ext E55
      have S_DEFAULTCAPACITY_EMPTY_ELEMENTDATA := S_DEFAULTCAPACITY_EMPTY_ELEMENTDATA.ext E55
      have E_bo53 := E_bo53.ext E55
      have V_bo53 := V_bo53.ext E55
      have E_b54 := E_b54.ext E55
      have F_b54_operands := F_b54_operands.ext E55
      have F_b54_command := F_b54_command.ext E55
      have F_b54_usage := F_b54_usage.ext E55
      have F_b54_arguments := F_b54_arguments.ext E55
      have F_b54_maxOperands := F_b54_maxOperands.ext E55
      have F_b54_next := F_b54_next.ext E55
      refine C55.ldcStr (hw _ (List.mem_of_getElem? (i := 38) rfl)) (own_wS hw) 4 (by decide) (by decide) (by decide) (by decide) at_24 rfl (fun s56 T56 h56 C56 E56 => ?_)
      have S_COMPACT_STRINGS := S_COMPACT_STRINGS.ext E56
      have S_DEFAULTCAPACITY_EMPTY_ELEMENTDATA := S_DEFAULTCAPACITY_EMPTY_ELEMENTDATA.ext E56
      have E_bo53 := E_bo53.ext E56
      have V_bo53 := V_bo53.ext E56
      have E_b54 := E_b54.ext E56
      have F_b54_operands := F_b54_operands.ext E56
      have F_b54_command := F_b54_command.ext E56
      have F_b54_usage := F_b54_usage.ext E56
      have F_b54_arguments := F_b54_arguments.ext E56
      have F_b54_maxOperands := F_b54_maxOperands.ext E56
      have F_b54_next := F_b54_next.ext E56
      refine C56.aload at_26 rfl rfl rfl ?_
      refine C56.iloadN at_28 rfl rfl ?_
      refine C56.callN rfl (hw _ (List.mem_of_getElem? (i := 39) rfl)) (hw _ (List.mem_of_getElem? (i := 40) rfl)) (hw _ (List.mem_of_getElem? (i := 34) rfl)) (hw _ (List.mem_of_getElem? (i := 41) rfl)) (by decide) (a := b54) (rm7 l Z a0 hw b54 s55 s56 bo53 i3 de .null .null .null .null (.int (0 : Int32)) ko53 (1 : Int32) vs53 .null h56 n0 C56.size E_b54 F_b54_operands F_b54_command F_b54_usage F_b54_arguments F_b54_maxOperands F_b54_next g_b54 S_DEFAULTCAPACITY_EMPTY_ELEMENTDATA E_bo53 V_bo53 (by decide)) (argsL := [(.ref s55), (.ref s56), (.ref bo53), (.int i3)]) pd7 rfl 1 (by decide) (by decide) (by decide) (by decide) (rest := [(.ref b54)]) rfl rfl (Nat.le_of_eq rfl) at_29 rfl (fun v57 T57 h57 C57 qq57 => ?_)
      obtain ⟨bc57, rfl, K57, p57_0, p57_1, p57_2, p57_3, p57_4, p57_5⟩ := qq57
      have S_COMPACT_STRINGS := own_stak S_COMPACT_STRINGS K57 (allS (own_plainE E_b54) (all0))
      have S_DEFAULTCAPACITY_EMPTY_ELEMENTDATA := own_stak S_DEFAULTCAPACITY_EMPTY_ELEMENTDATA K57 (allS (own_plainE E_b54) (all0))
      have E_bo53 := E_bo53.keep K57
      have V_bo53 := V_bo53.keep K57 (ninS ne_bo53_b54 nin0)
      have E_b54 := E_b54.keep K57
      have E_b54 := p57_0
      have F_b54_arguments := p57_1
      have F_b54_next := p57_2
      have E_bc57 := p57_3
      have V_bc57 := p57_4
      have g_bc57 := p57_5
      show Go p e below F n0 (fun v _ => v = some (.int (1 : Int32))) T57 (mkF m 32 #[.val (.int i0), .val (.int i1), .val (.int i2), .val (.int i3), .val (.int (1 : Int32)), .val (.int (1 : Int32)), .val (.ref bo53), .unset, .unset, .unset] [(.ref b54)])
      refine C57.astore at_32 rfl rfl (L' := #[.val (.int i0), .val (.int i1), .val (.int i2), .val (.int i3), .val (.int (1 : Int32)), .val (.int (1 : Int32)), .val (.ref bo53), .val (.ref b54), .unset, .unset]) rfl ?_
      refine C57.iconst (1 : Int32) at_34 rfl rfl ?_
      refine C57.istore at_35 rfl (L' := #[.val (.int i0), .val (.int i1), .val (.int i2), .val (.int i3), .val (.int (1 : Int32)), .val (.int (1 : Int32)), .val (.ref bo53), .val (.ref b54), .val (.int (1 : Int32)), .unset]) rfl ?_
      refine C57.iconst (0 : Int32) at_37 rfl rfl ?_
      refine C57.istore at_38 rfl (L' := #[.val (.int i0), .val (.int i1), .val (.int i2), .val (.int i3), .val (.int (1 : Int32)), .val (.int (1 : Int32)), .val (.ref bo53), .val (.ref b54), .val (.int (1 : Int32)), .val (.int (0 : Int32))]) rfl ?_
      refine C57.iload at_40 rfl rfl ?_
      refine C57.aload at_42 rfl rfl rfl ?_
      refine C57.callV (hw _ (List.mem_of_getElem? (i := 86) rfl)) (hw _ (List.mem_of_getElem? (i := 87) rfl)) (hw _ (List.mem_of_getElem? (i := 89) rfl)) (hw _ (List.mem_of_getElem? (i := 88) rfl)) (hw _ (List.mem_of_getElem? (i := 34) rfl)) (hw _ (List.mem_of_getElem? (i := 90) rfl)) E_b54 (by decide) (a := b54) (rm11 l Z a0 hw b54 bc57 (0 : Int32) ko53 (1 : Int32) vs53 .null h57 n0 C57.size F_b54_arguments F_b54_next V_bc57) (argsL := []) pd11 rfl 1 (by decide) (by decide) (by decide) (by decide) (rest := [(.int (1 : Int32))]) rfl rfl (Nat.le_of_eq rfl) at_44 rfl (fun v58 T58 h58 C58 qq58 => ?_)
      obtain ⟨rfl, hh58⟩ := qq58
      have hh58 := hh58.symm; subst hh58
      show Go p e below F n0 (fun v _ => v = some (.int (1 : Int32))) T58 (mkF m 47 #[.val (.int i0), .val (.int i1), .val (.int i2), .val (.int i3), .val (.int (1 : Int32)), .val (.int (1 : Int32)), .val (.ref bo53), .val (.ref b54), .val (.int (1 : Int32)), .val (.int (0 : Int32))] [(.int (f11 (0 : Int32) (1 : Int32))), (.int (1 : Int32))])
      refine C58.iload at_47 rfl rfl ?_
      refine C58.iload at_49 rfl rfl ?_
      refine C58.icmp_ge at_51 (by decide) (by decide : _ = 58) rfl (fun q => absurd (by decide) q) (fun _ => ?_)
      refine C58.iconst (1 : Int32) at_54 rfl rfl ?_
      refine C58.goto at_55 (by decide) (by decide : _ = 59) ?_
      refine C58.icmp_ne at_59 (by decide) (by decide : _ = 66) rfl (fun q => absurd (by decide) q) (fun _ => ?_)
      refine C58.iconst (1 : Int32) at_62 rfl rfl ?_
      refine C58.goto at_63 (by decide) (by decide : _ = 67) ?_
      refine C58.iand at_67 rfl ?_
      rw [own_and11]
      refine C58.istore at_68 rfl (L' := #[.val (.int i0), .val (.int i1), .val (.int i2), .val (.int i3), .val (.int (1 : Int32)), .val (.int (1 : Int32)), .val (.ref bo53), .val (.ref b54), .val (.int (1 : Int32)), .val (.int (0 : Int32))]) rfl ?_
      refine C58.iload at_70 rfl rfl ?_
      refine C58.iconst (1 : Int32) at_72 rfl rfl ?_
      refine C58.icmp_lt at_73 (by decide) (by decide : _ = 91) rfl (fun q => absurd q (by decide)) (fun _ => ?_)
      refine C58.iconst (0 : Int32) at_76 rfl rfl ?_
      refine C58.iload at_77 rfl rfl ?_
      refine C58.icmp_ge at_79 (by decide) (by decide : _ = 91) rfl (fun q => absurd (by decide) q) (fun _ => ?_)
      refine C58.aload at_82 rfl rfl rfl ?_
      refine C58.callV (hw _ (List.mem_of_getElem? (i := 93) rfl)) (hw _ (List.mem_of_getElem? (i := 94) rfl)) (hw _ (List.mem_of_getElem? (i := 96) rfl)) (hw _ (List.mem_of_getElem? (i := 95) rfl)) (hw _ (List.mem_of_getElem? (i := 34) rfl)) (hw _ (List.mem_of_getElem? (i := 97) rfl)) E_b54 (by decide) (a := b54) (rm12 l Z a0 hw b54 bc57 (0 : Int32) ko53 (1 : Int32) vs53 .null h57 n0 C58.size E_b54 F_b54_arguments F_b54_next V_bc57 E_bc57 g_b54 ⟨by decide, by decide⟩ hr) (argsL := []) pd12 rfl 0 (by decide) (by decide) (by decide) (by decide) (rest := []) rfl rfl (Nat.le_of_eq rfl) at_84 rfl (fun v59 T59 h59 C59 qq59 => ?_)
      obtain ⟨rfl, K59, p59_0, p59_1, p59_2⟩ := qq59
      have ne_bc57_b54 : bc57 ≠ b54 := (ne_exa E_bc57 E_b54 (by decide))
      have S_COMPACT_STRINGS := own_stak S_COMPACT_STRINGS K59 (allS (own_plainE E_b54) (all0))
      have S_DEFAULTCAPACITY_EMPTY_ELEMENTDATA := own_stak S_DEFAULTCAPACITY_EMPTY_ELEMENTDATA K59 (allS (own_plainE E_b54) (all0))
      have E_bo53 := E_bo53.keep K59
      have V_bo53 := V_bo53.keep K59 (ninS ne_bo53_b54 nin0)
      have E_b54 := E_b54.keep K59
      have E_bc57 := E_bc57.keep K59
      have V_bc57 := V_bc57.keep K59 (ninS ne_bc57_b54 nin0)
      have E_b54 := p59_0
      have F_b54_arguments := p59_1
      have F_b54_next := p59_2
      show Go p e below F n0 (fun v _ => v = some (.int (1 : Int32))) T59 (mkF m 87 #[.val (.int i0), .val (.int i1), .val (.int i2), .val (.int i3), .val (.int (1 : Int32)), .val (.int (1 : Int32)), .val (.ref bo53), .val (.ref b54), .val (.int (1 : Int32)), .val (.int (0 : Int32))] [(vs53.getD ((0 : Int32)).toNatClampNeg .null)])
      refine C59.pop at_87 rfl (XT.cat1 (hr _)) ?_
      refine C59.iconst (1 : Int32) at_88 rfl rfl ?_
      refine C59.istore at_89 rfl (L' := #[.val (.int i0), .val (.int i1), .val (.int i2), .val (.int i3), .val (.int (1 : Int32)), .val (.int (1 : Int32)), .val (.ref bo53), .val (.ref b54), .val (.int (1 : Int32)), .val (.int (1 : Int32))]) rfl ?_
      refine C59.iload at_91 rfl rfl ?_
      refine C59.aload at_93 rfl rfl rfl ?_
      refine C59.callV (hw _ (List.mem_of_getElem? (i := 86) rfl)) (hw _ (List.mem_of_getElem? (i := 87) rfl)) (hw _ (List.mem_of_getElem? (i := 89) rfl)) (hw _ (List.mem_of_getElem? (i := 88) rfl)) (hw _ (List.mem_of_getElem? (i := 34) rfl)) (hw _ (List.mem_of_getElem? (i := 90) rfl)) E_b54 (by decide) (a := b54) (rm11 l Z a0 hw b54 bc57 ((0 : Int32) + (1 : Int32)) ko53 (1 : Int32) vs53 .null h59 n0 C59.size F_b54_arguments F_b54_next V_bc57) (argsL := []) pd11 rfl 1 (by decide) (by decide) (by decide) (by decide) (rest := [(.int (1 : Int32))]) rfl rfl (Nat.le_of_eq rfl) at_95 rfl (fun v60 T60 h60 C60 qq60 => ?_)
      obtain ⟨rfl, hh60⟩ := qq60
      have hh60 := hh60.symm; subst hh60
      show Go p e below F n0 (fun v _ => v = some (.int (1 : Int32))) T60 (mkF m 98 #[.val (.int i0), .val (.int i1), .val (.int i2), .val (.int i3), .val (.int (1 : Int32)), .val (.int (1 : Int32)), .val (.ref bo53), .val (.ref b54), .val (.int (1 : Int32)), .val (.int (1 : Int32))] [(.int (f11 ((0 : Int32) + (1 : Int32)) (1 : Int32))), (.int (1 : Int32))])
      refine C60.iload at_98 rfl rfl ?_
      refine C60.iload at_100 rfl rfl ?_
      refine C60.icmp_ge at_102 (by decide) (by decide : _ = 109) rfl (fun _ => ?_) (fun q => absurd q (by decide))
      refine C60.iconst (0 : Int32) at_109 rfl rfl ?_
      refine C60.icmp_ne at_110 (by decide) (by decide : _ = 117) rfl (fun q => absurd (by decide) q) (fun _ => ?_)
      refine C60.iconst (1 : Int32) at_113 rfl rfl ?_
      refine C60.goto at_114 (by decide) (by decide : _ = 118) ?_
      refine C60.iand at_118 rfl ?_
      rw [own_and11]
      refine C60.istore at_119 rfl (L' := #[.val (.int i0), .val (.int i1), .val (.int i2), .val (.int i3), .val (.int (1 : Int32)), .val (.int (1 : Int32)), .val (.ref bo53), .val (.ref b54), .val (.int (1 : Int32)), .val (.int (1 : Int32))]) rfl ?_
      refine C60.iload at_121 rfl rfl ?_
      refine C60.aload at_123 rfl rfl rfl ?_
      refine C60.callV (hw _ (List.mem_of_getElem? (i := 86) rfl)) (hw _ (List.mem_of_getElem? (i := 87) rfl)) (hw _ (List.mem_of_getElem? (i := 89) rfl)) (hw _ (List.mem_of_getElem? (i := 88) rfl)) (hw _ (List.mem_of_getElem? (i := 34) rfl)) (hw _ (List.mem_of_getElem? (i := 90) rfl)) E_b54 (by decide) (a := b54) (rm11 l Z a0 hw b54 bc57 ((0 : Int32) + (1 : Int32)) ko53 (1 : Int32) vs53 .null h59 n0 C60.size F_b54_arguments F_b54_next V_bc57) (argsL := []) pd11 rfl 1 (by decide) (by decide) (by decide) (by decide) (rest := [(.int (1 : Int32))]) rfl rfl (Nat.le_of_eq rfl) at_125 rfl (fun v61 T61 h61 C61 qq61 => ?_)
      obtain ⟨rfl, hh61⟩ := qq61
      have hh61 := hh61.symm; subst hh61
      show Go p e below F n0 (fun v _ => v = some (.int (1 : Int32))) T61 (mkF m 128 #[.val (.int i0), .val (.int i1), .val (.int i2), .val (.int i3), .val (.int (1 : Int32)), .val (.int (1 : Int32)), .val (.ref bo53), .val (.ref b54), .val (.int (1 : Int32)), .val (.int (1 : Int32))] [(.int (f11 ((0 : Int32) + (1 : Int32)) (1 : Int32))), (.int (1 : Int32))])
      refine C61.iload at_128 rfl rfl ?_
      refine C61.iload at_130 rfl rfl ?_
      refine C61.icmp_ge at_132 (by decide) (by decide : _ = 139) rfl (fun _ => ?_) (fun q => absurd q (by decide))
      refine C61.iconst (0 : Int32) at_139 rfl rfl ?_
      refine C61.icmp_ne at_140 (by decide) (by decide : _ = 147) rfl (fun q => absurd (by decide) q) (fun _ => ?_)
      refine C61.iconst (1 : Int32) at_143 rfl rfl ?_
      refine C61.goto at_144 (by decide) (by decide : _ = 148) ?_
      refine C61.iand at_148 rfl ?_
      rw [own_and11]
      refine C61.istore at_149 rfl (L' := #[.val (.int i0), .val (.int i1), .val (.int i2), .val (.int i3), .val (.int (1 : Int32)), .val (.int (1 : Int32)), .val (.ref bo53), .val (.ref b54), .val (.int (1 : Int32)), .val (.int (1 : Int32))]) rfl ?_
      refine C61.iload at_151 rfl rfl ?_
      refine C61.iconst (2 : Int32) at_153 rfl rfl ?_
      refine C61.icmp_lt at_154 (by decide) (by decide : _ = 172) rfl (fun _ => ?_) (fun q => absurd (by decide) q)
      refine C61.iload at_172 rfl rfl ?_
      refine C61.aload at_174 rfl rfl rfl ?_
      refine C61.callV (hw _ (List.mem_of_getElem? (i := 86) rfl)) (hw _ (List.mem_of_getElem? (i := 87) rfl)) (hw _ (List.mem_of_getElem? (i := 89) rfl)) (hw _ (List.mem_of_getElem? (i := 88) rfl)) (hw _ (List.mem_of_getElem? (i := 34) rfl)) (hw _ (List.mem_of_getElem? (i := 90) rfl)) E_b54 (by decide) (a := b54) (rm11 l Z a0 hw b54 bc57 ((0 : Int32) + (1 : Int32)) ko53 (1 : Int32) vs53 .null h59 n0 C61.size F_b54_arguments F_b54_next V_bc57) (argsL := []) pd11 rfl 1 (by decide) (by decide) (by decide) (by decide) (rest := [(.int (1 : Int32))]) rfl rfl (Nat.le_of_eq rfl) at_176 rfl (fun v62 T62 h62 C62 qq62 => ?_)
      obtain ⟨rfl, hh62⟩ := qq62
      have hh62 := hh62.symm; subst hh62
      show Go p e below F n0 (fun v _ => v = some (.int (1 : Int32))) T62 (mkF m 179 #[.val (.int i0), .val (.int i1), .val (.int i2), .val (.int i3), .val (.int (1 : Int32)), .val (.int (1 : Int32)), .val (.ref bo53), .val (.ref b54), .val (.int (1 : Int32)), .val (.int (1 : Int32))] [(.int (f11 ((0 : Int32) + (1 : Int32)) (1 : Int32))), (.int (1 : Int32))])
      refine C62.iload at_179 rfl rfl ?_
      refine C62.iload at_181 rfl rfl ?_
      refine C62.icmp_ge at_183 (by decide) (by decide : _ = 190) rfl (fun _ => ?_) (fun q => absurd q (by decide))
      refine C62.iconst (0 : Int32) at_190 rfl rfl ?_
      refine C62.icmp_ne at_191 (by decide) (by decide : _ = 198) rfl (fun q => absurd (by decide) q) (fun _ => ?_)
      refine C62.iconst (1 : Int32) at_194 rfl rfl ?_
      refine C62.goto at_195 (by decide) (by decide : _ = 199) ?_
      refine C62.iand at_199 rfl ?_
      rw [own_and11]
      refine C62.istore at_200 rfl (L' := #[.val (.int i0), .val (.int i1), .val (.int i2), .val (.int i3), .val (.int (1 : Int32)), .val (.int (1 : Int32)), .val (.ref bo53), .val (.ref b54), .val (.int (1 : Int32)), .val (.int (1 : Int32))]) rfl ?_
      refine C62.iload at_202 rfl rfl ?_
      refine C62.iconst (3 : Int32) at_204 rfl rfl ?_
      refine C62.icmp_lt at_205 (by decide) (by decide : _ = 223) rfl (fun _ => ?_) (fun q => absurd (by decide) q)
      refine C62.iload at_223 rfl rfl ?_
      refine C62.aload at_225 rfl rfl rfl ?_
      refine C62.callV (hw _ (List.mem_of_getElem? (i := 86) rfl)) (hw _ (List.mem_of_getElem? (i := 87) rfl)) (hw _ (List.mem_of_getElem? (i := 89) rfl)) (hw _ (List.mem_of_getElem? (i := 88) rfl)) (hw _ (List.mem_of_getElem? (i := 34) rfl)) (hw _ (List.mem_of_getElem? (i := 90) rfl)) E_b54 (by decide) (a := b54) (rm11 l Z a0 hw b54 bc57 ((0 : Int32) + (1 : Int32)) ko53 (1 : Int32) vs53 .null h59 n0 C62.size F_b54_arguments F_b54_next V_bc57) (argsL := []) pd11 rfl 1 (by decide) (by decide) (by decide) (by decide) (rest := [(.int (1 : Int32))]) rfl rfl (Nat.le_of_eq rfl) at_227 rfl (fun v63 T63 h63 C63 qq63 => ?_)
      obtain ⟨rfl, hh63⟩ := qq63
      have hh63 := hh63.symm; subst hh63
      show Go p e below F n0 (fun v _ => v = some (.int (1 : Int32))) T63 (mkF m 230 #[.val (.int i0), .val (.int i1), .val (.int i2), .val (.int i3), .val (.int (1 : Int32)), .val (.int (1 : Int32)), .val (.ref bo53), .val (.ref b54), .val (.int (1 : Int32)), .val (.int (1 : Int32))] [(.int (f11 ((0 : Int32) + (1 : Int32)) (1 : Int32))), (.int (1 : Int32))])
      refine C63.iload at_230 rfl rfl ?_
      refine C63.iload at_232 rfl rfl ?_
      refine C63.icmp_ge at_234 (by decide) (by decide : _ = 241) rfl (fun _ => ?_) (fun q => absurd q (by decide))
      refine C63.iconst (0 : Int32) at_241 rfl rfl ?_
      refine C63.icmp_ne at_242 (by decide) (by decide : _ = 249) rfl (fun q => absurd (by decide) q) (fun _ => ?_)
      refine C63.iconst (1 : Int32) at_245 rfl rfl ?_
      refine C63.goto at_246 (by decide) (by decide : _ = 250) ?_
      refine C63.iand at_250 rfl ?_
      rw [own_and11]
      refine C63.istore at_251 rfl (L' := #[.val (.int i0), .val (.int i1), .val (.int i2), .val (.int i3), .val (.int (1 : Int32)), .val (.int (1 : Int32)), .val (.ref bo53), .val (.ref b54), .val (.int (1 : Int32)), .val (.int (1 : Int32))]) rfl ?_
      refine C63.iload at_253 rfl rfl ?_
      exact C63.retN (t := .boolean) at_255 rfl (by simp) (by decide) (by decide) (w := (1 : Int32)) rfl rfl
    · subst e
      refine C0.iload at_10 rfl rfl ?_
      refine C0.iloadN at_12 rfl rfl ?_
      refine C0.callS (hw _ (List.mem_of_getElem? (i := 0) rfl)) (hw _ (List.mem_of_getElem? (i := 1) rfl)) (hw _ (List.mem_of_getElem? (i := 2) rfl)) (hw _ (List.mem_of_getElem? (i := 3) rfl)) (by decide) (rm1 l Z a0 hw (1 : Int32) i2 cs h0 n0 C0.size S_COMPACT_STRINGS hcs (Or.inr (Or.inl rfl))) (argsL := [(.int (1 : Int32)), (.int i2)]) pd1 rfl 0 (by decide) (by decide) (by decide) (by decide) (rest := []) rfl rfl (Nat.le_of_eq rfl) at_13 rfl (fun v64 T64 h64 C64 qq64 => ?_)
      obtain ⟨bo64, ko64, vs64, rfl, K64, p64_0, p64_1, p64_2, p64_3⟩ := qq64
      have K64 := ext_keep K64
      have S_COMPACT_STRINGS := S_COMPACT_STRINGS.ext K64
      have S_DEFAULTCAPACITY_EMPTY_ELEMENTDATA := S_DEFAULTCAPACITY_EMPTY_ELEMENTDATA.ext K64
      have E_bo64 := p64_0
      have V_bo64 := p64_1
      have hr := p64_2
      have g_bo64 := p64_3
      show Go p e below F n0 (fun v _ => v = some (.int (1 : Int32))) T64 (mkF m 16 #[.val (.int i0), .val (.int i1), .val (.int i2), .val (.int i3), .val (.int (1 : Int32)), .val (.int (2 : Int32)), .unset, .unset, .unset, .unset] [(.ref bo64)])
      refine C64.astore at_16 rfl rfl (L' := #[.val (.int i0), .val (.int i1), .val (.int i2), .val (.int i3), .val (.int (1 : Int32)), .val (.int (2 : Int32)), .val (.ref bo64), .unset, .unset, .unset]) rfl ?_
      refine C64.new (hw _ (List.mem_of_getElem? (i := 32) rfl)) (hw _ (List.mem_of_getElem? (i := 33) rfl)) (hw _ (List.mem_of_getElem? (i := 34) rfl)) at_18 rfl (by decide) (by decide) (fun T65 h65 b65 C65 e65 g_b65 E65 E_b65 D65 => ?_)
      have ne_bo64_b65 : bo64 ≠ b65 := Nat.ne_of_lt (Nat.lt_of_lt_of_eq E_bo64.lt e65.symm)
      have S_COMPACT_STRINGS := S_COMPACT_STRINGS.ext E65
      have S_DEFAULTCAPACITY_EMPTY_ELEMENTDATA := S_DEFAULTCAPACITY_EMPTY_ELEMENTDATA.ext E65
      have E_bo64 := E_bo64.ext E65
      have V_bo64 := V_bo64.ext E65
      have F_b65_operands : Fld Z h65 b65 "com/example/bouncer/bouncer/cli/Arguments" "operands" "Ljava/util/List;" .null := D65 (Or.inr (hw _ (List.mem_of_getElem? (i := 68) rfl))) (ty := (.object "java/util/List")) (by decide)
      have F_b65_command : Fld Z h65 b65 "com/example/bouncer/bouncer/cli/Arguments" "command" "Ljava/lang/String;" .null := D65 (Or.inr (hw _ (List.mem_of_getElem? (i := 70) rfl))) (ty := (.object "java/lang/String")) (by decide)
      have F_b65_usage : Fld Z h65 b65 "com/example/bouncer/bouncer/cli/Arguments" "usage" "Ljava/lang/String;" .null := D65 (Or.inr (hw _ (List.mem_of_getElem? (i := 72) rfl))) (ty := (.object "java/lang/String")) (by decide)
      have F_b65_arguments : Fld Z h65 b65 "com/example/bouncer/bouncer/cli/Arguments" "arguments" "[Ljava/lang/String;" .null := D65 (Or.inr (hw _ (List.mem_of_getElem? (i := 83) rfl))) (ty := (.array (.object "java/lang/String"))) (by decide)
      have F_b65_maxOperands : Fld Z h65 b65 "com/example/bouncer/bouncer/cli/Arguments" "maxOperands" "I" (.int (0 : Int32)) := D65 (Or.inr (hw _ (List.mem_of_getElem? (i := 85) rfl))) (ty := .int) (by decide)
      have F_b65_next : Fld Z h65 b65 "com/example/bouncer/bouncer/cli/Arguments" "next" "I" (.int (0 : Int32)) := D65 (Or.inl (hw _ (List.mem_of_getElem? (i := 92) rfl))) (ty := .int) (by decide)
      refine C65.dup at_21 rfl rfl ?_
      refine C65.ldcStr (hw _ (List.mem_of_getElem? (i := 35) rfl)) (own_wS hw) 4 (by decide) (by decide) (by decide) (by decide) at_22 rfl (fun s66 T66 h66 C66 E66 => ?_)
      have S_COMPACT_STRINGS := S_COMPACT_STRINGS.ext E66
      have S_DEFAULTCAPACITY_EMPTY_ELEMENTDATA := S_DEFAULTCAPACITY_EMPTY_ELEMENTDATA.ext E66
      have E_bo64 := E_bo64.ext E66
      have V_bo64 := V_bo64.ext E66
      have E_b65 := E_b65.ext E66
      have F_b65_operands := F_b65_operands.ext E66
      have F_b65_command := F_b65_command.ext E66
      have F_b65_usage := F_b65_usage.ext E66
      have F_b65_arguments := F_b65_arguments.ext E66
      have F_b65_maxOperands := F_b65_maxOperands.ext E66
      have F_b65_next := F_b65_next.ext E66
      refine C66.ldcStr (hw _ (List.mem_of_getElem? (i := 38) rfl)) (own_wS hw) 4 (by decide) (by decide) (by decide) (by decide) at_24 rfl (fun s67 T67 h67 C67 E67 => ?_)
      have S_COMPACT_STRINGS := S_COMPACT_STRINGS.ext E67
      have S_DEFAULTCAPACITY_EMPTY_ELEMENTDATA := S_DEFAULTCAPACITY_EMPTY_ELEMENTDATA.ext E67
      have E_bo64 := E_bo64.ext E67
      have V_bo64 := V_bo64.ext E67
      have E_b65 := E_b65.ext E67
      have F_b65_operands := F_b65_operands.ext E67
      have F_b65_command := F_b65_command.ext E67
      have F_b65_usage := F_b65_usage.ext E67
      have F_b65_arguments := F_b65_arguments.ext E67
      have F_b65_maxOperands := F_b65_maxOperands.ext E67
      have F_b65_next := F_b65_next.ext E67
      refine C67.aload at_26 rfl rfl rfl ?_
      refine C67.iloadN at_28 rfl rfl ?_
      refine C67.callN rfl (hw _ (List.mem_of_getElem? (i := 39) rfl)) (hw _ (List.mem_of_getElem? (i := 40) rfl)) (hw _ (List.mem_of_getElem? (i := 34) rfl)) (hw _ (List.mem_of_getElem? (i := 41) rfl)) (by decide) (a := b65) (rm7 l Z a0 hw b65 s66 s67 bo64 i3 de .null .null .null .null (.int (0 : Int32)) ko64 (1 : Int32) vs64 .null h67 n0 C67.size E_b65 F_b65_operands F_b65_command F_b65_usage F_b65_arguments F_b65_maxOperands F_b65_next g_b65 S_DEFAULTCAPACITY_EMPTY_ELEMENTDATA E_bo64 V_bo64 (by decide)) (argsL := [(.ref s66), (.ref s67), (.ref bo64), (.int i3)]) pd7 rfl 1 (by decide) (by decide) (by decide) (by decide) (rest := [(.ref b65)]) rfl rfl (Nat.le_of_eq rfl) at_29 rfl (fun v68 T68 h68 C68 qq68 => ?_)
      obtain ⟨bc68, rfl, K68, p68_0, p68_1, p68_2, p68_3, p68_4, p68_5⟩ := qq68
      have S_COMPACT_STRINGS := own_stak S_COMPACT_STRINGS K68 (allS (own_plainE E_b65) (all0))
      have S_DEFAULTCAPACITY_EMPTY_ELEMENTDATA := own_stak S_DEFAULTCAPACITY_EMPTY_ELEMENTDATA K68 (allS (own_plainE E_b65) (all0))
      have E_bo64 := E_bo64.keep K68
      have V_bo64 := V_bo64.keep K68 (ninS ne_bo64_b65 nin0)
      have E_b65 := E_b65.keep K68
      have E_b65 := p68_0
      have F_b65_arguments := p68_1
      have F_b65_next := p68_2
      have E_bc68 := p68_3
      have V_bc68 := p68_4
      have g_bc68 := p68_5
      show Go p e below F n0 (fun v _ => v = some (.int (1 : Int32))) T68 (mkF m 32 #[.val (.int i0), .val (.int i1), .val (.int i2), .val (.int i3), .val (.int (1 : Int32)), .val (.int (2 : Int32)), .val (.ref bo64), .unset, .unset, .unset] [(.ref b65)])
      refine C68.astore at_32 rfl rfl (L' := #[.val (.int i0), .val (.int i1), .val (.int i2), .val (.int i3), .val (.int (1 : Int32)), .val (.int (2 : Int32)), .val (.ref bo64), .val (.ref b65), .unset, .unset]) rfl ?_
      refine C68.iconst (1 : Int32) at_34 rfl rfl ?_
      refine C68.istore at_35 rfl (L' := #[.val (.int i0), .val (.int i1), .val (.int i2), .val (.int i3), .val (.int (1 : Int32)), .val (.int (2 : Int32)), .val (.ref bo64), .val (.ref b65), .val (.int (1 : Int32)), .unset]) rfl ?_
      refine C68.iconst (0 : Int32) at_37 rfl rfl ?_
      refine C68.istore at_38 rfl (L' := #[.val (.int i0), .val (.int i1), .val (.int i2), .val (.int i3), .val (.int (1 : Int32)), .val (.int (2 : Int32)), .val (.ref bo64), .val (.ref b65), .val (.int (1 : Int32)), .val (.int (0 : Int32))]) rfl ?_
      refine C68.iload at_40 rfl rfl ?_
      refine C68.aload at_42 rfl rfl rfl ?_
      refine C68.callV (hw _ (List.mem_of_getElem? (i := 86) rfl)) (hw _ (List.mem_of_getElem? (i := 87) rfl)) (hw _ (List.mem_of_getElem? (i := 89) rfl)) (hw _ (List.mem_of_getElem? (i := 88) rfl)) (hw _ (List.mem_of_getElem? (i := 34) rfl)) (hw _ (List.mem_of_getElem? (i := 90) rfl)) E_b65 (by decide) (a := b65) (rm11 l Z a0 hw b65 bc68 (0 : Int32) ko64 (1 : Int32) vs64 .null h68 n0 C68.size F_b65_arguments F_b65_next V_bc68) (argsL := []) pd11 rfl 1 (by decide) (by decide) (by decide) (by decide) (rest := [(.int (1 : Int32))]) rfl rfl (Nat.le_of_eq rfl) at_44 rfl (fun v69 T69 h69 C69 qq69 => ?_)
      obtain ⟨rfl, hh69⟩ := qq69
      have hh69 := hh69.symm; subst hh69
      show Go p e below F n0 (fun v _ => v = some (.int (1 : Int32))) T69 (mkF m 47 #[.val (.int i0), .val (.int i1), .val (.int i2), .val (.int i3), .val (.int (1 : Int32)), .val (.int (2 : Int32)), .val (.ref bo64), .val (.ref b65), .val (.int (1 : Int32)), .val (.int (0 : Int32))] [(.int (f11 (0 : Int32) (1 : Int32))), (.int (1 : Int32))])
      refine C69.iload at_47 rfl rfl ?_
      refine C69.iload at_49 rfl rfl ?_
      refine C69.icmp_ge at_51 (by decide) (by decide : _ = 58) rfl (fun q => absurd (by decide) q) (fun _ => ?_)
      refine C69.iconst (1 : Int32) at_54 rfl rfl ?_
      refine C69.goto at_55 (by decide) (by decide : _ = 59) ?_
      refine C69.icmp_ne at_59 (by decide) (by decide : _ = 66) rfl (fun q => absurd (by decide) q) (fun _ => ?_)
      refine C69.iconst (1 : Int32) at_62 rfl rfl ?_
      refine C69.goto at_63 (by decide) (by decide : _ = 67) ?_
      refine C69.iand at_67 rfl ?_
      rw [own_and11]
      refine C69.istore at_68 rfl (L' := #[.val (.int i0), .val (.int i1), .val (.int i2), .val (.int i3), .val (.int (1 : Int32)), .val (.int (2 : Int32)), .val (.ref bo64), .val (.ref b65), .val (.int (1 : Int32)), .val (.int (0 : Int32))]) rfl ?_
      refine C69.iload at_70 rfl rfl ?_
      refine C69.iconst (1 : Int32) at_72 rfl rfl ?_
      refine C69.icmp_lt at_73 (by decide) (by decide : _ = 91) rfl (fun q => absurd q (by decide)) (fun _ => ?_)
      refine C69.iconst (0 : Int32) at_76 rfl rfl ?_
      refine C69.iload at_77 rfl rfl ?_
      refine C69.icmp_ge at_79 (by decide) (by decide : _ = 91) rfl (fun q => absurd (by decide) q) (fun _ => ?_)
      refine C69.aload at_82 rfl rfl rfl ?_
      refine C69.callV (hw _ (List.mem_of_getElem? (i := 93) rfl)) (hw _ (List.mem_of_getElem? (i := 94) rfl)) (hw _ (List.mem_of_getElem? (i := 96) rfl)) (hw _ (List.mem_of_getElem? (i := 95) rfl)) (hw _ (List.mem_of_getElem? (i := 34) rfl)) (hw _ (List.mem_of_getElem? (i := 97) rfl)) E_b65 (by decide) (a := b65) (rm12 l Z a0 hw b65 bc68 (0 : Int32) ko64 (1 : Int32) vs64 .null h68 n0 C69.size E_b65 F_b65_arguments F_b65_next V_bc68 E_bc68 g_b65 ⟨by decide, by decide⟩ hr) (argsL := []) pd12 rfl 0 (by decide) (by decide) (by decide) (by decide) (rest := []) rfl rfl (Nat.le_of_eq rfl) at_84 rfl (fun v70 T70 h70 C70 qq70 => ?_)
      obtain ⟨rfl, K70, p70_0, p70_1, p70_2⟩ := qq70
      have ne_bc68_b65 : bc68 ≠ b65 := (ne_exa E_bc68 E_b65 (by decide))
      have S_COMPACT_STRINGS := own_stak S_COMPACT_STRINGS K70 (allS (own_plainE E_b65) (all0))
      have S_DEFAULTCAPACITY_EMPTY_ELEMENTDATA := own_stak S_DEFAULTCAPACITY_EMPTY_ELEMENTDATA K70 (allS (own_plainE E_b65) (all0))
      have E_bo64 := E_bo64.keep K70
      have V_bo64 := V_bo64.keep K70 (ninS ne_bo64_b65 nin0)
      have E_b65 := E_b65.keep K70
      have E_bc68 := E_bc68.keep K70
      have V_bc68 := V_bc68.keep K70 (ninS ne_bc68_b65 nin0)
      have E_b65 := p70_0
      have F_b65_arguments := p70_1
      have F_b65_next := p70_2
      show Go p e below F n0 (fun v _ => v = some (.int (1 : Int32))) T70 (mkF m 87 #[.val (.int i0), .val (.int i1), .val (.int i2), .val (.int i3), .val (.int (1 : Int32)), .val (.int (2 : Int32)), .val (.ref bo64), .val (.ref b65), .val (.int (1 : Int32)), .val (.int (0 : Int32))] [(vs64.getD ((0 : Int32)).toNatClampNeg .null)])
      refine C70.pop at_87 rfl (XT.cat1 (hr _)) ?_
      refine C70.iconst (1 : Int32) at_88 rfl rfl ?_
      refine C70.istore at_89 rfl (L' := #[.val (.int i0), .val (.int i1), .val (.int i2), .val (.int i3), .val (.int (1 : Int32)), .val (.int (2 : Int32)), .val (.ref bo64), .val (.ref b65), .val (.int (1 : Int32)), .val (.int (1 : Int32))]) rfl ?_
      refine C70.iload at_91 rfl rfl ?_
      refine C70.aload at_93 rfl rfl rfl ?_
      refine C70.callV (hw _ (List.mem_of_getElem? (i := 86) rfl)) (hw _ (List.mem_of_getElem? (i := 87) rfl)) (hw _ (List.mem_of_getElem? (i := 89) rfl)) (hw _ (List.mem_of_getElem? (i := 88) rfl)) (hw _ (List.mem_of_getElem? (i := 34) rfl)) (hw _ (List.mem_of_getElem? (i := 90) rfl)) E_b65 (by decide) (a := b65) (rm11 l Z a0 hw b65 bc68 ((0 : Int32) + (1 : Int32)) ko64 (1 : Int32) vs64 .null h70 n0 C70.size F_b65_arguments F_b65_next V_bc68) (argsL := []) pd11 rfl 1 (by decide) (by decide) (by decide) (by decide) (rest := [(.int (1 : Int32))]) rfl rfl (Nat.le_of_eq rfl) at_95 rfl (fun v71 T71 h71 C71 qq71 => ?_)
      obtain ⟨rfl, hh71⟩ := qq71
      have hh71 := hh71.symm; subst hh71
      show Go p e below F n0 (fun v _ => v = some (.int (1 : Int32))) T71 (mkF m 98 #[.val (.int i0), .val (.int i1), .val (.int i2), .val (.int i3), .val (.int (1 : Int32)), .val (.int (2 : Int32)), .val (.ref bo64), .val (.ref b65), .val (.int (1 : Int32)), .val (.int (1 : Int32))] [(.int (f11 ((0 : Int32) + (1 : Int32)) (1 : Int32))), (.int (1 : Int32))])
      refine C71.iload at_98 rfl rfl ?_
      refine C71.iload at_100 rfl rfl ?_
      refine C71.icmp_ge at_102 (by decide) (by decide : _ = 109) rfl (fun _ => ?_) (fun q => absurd q (by decide))
      refine C71.iconst (0 : Int32) at_109 rfl rfl ?_
      refine C71.icmp_ne at_110 (by decide) (by decide : _ = 117) rfl (fun q => absurd (by decide) q) (fun _ => ?_)
      refine C71.iconst (1 : Int32) at_113 rfl rfl ?_
      refine C71.goto at_114 (by decide) (by decide : _ = 118) ?_
      refine C71.iand at_118 rfl ?_
      rw [own_and11]
      refine C71.istore at_119 rfl (L' := #[.val (.int i0), .val (.int i1), .val (.int i2), .val (.int i3), .val (.int (1 : Int32)), .val (.int (2 : Int32)), .val (.ref bo64), .val (.ref b65), .val (.int (1 : Int32)), .val (.int (1 : Int32))]) rfl ?_
      refine C71.iload at_121 rfl rfl ?_
      refine C71.aload at_123 rfl rfl rfl ?_
      refine C71.callV (hw _ (List.mem_of_getElem? (i := 86) rfl)) (hw _ (List.mem_of_getElem? (i := 87) rfl)) (hw _ (List.mem_of_getElem? (i := 89) rfl)) (hw _ (List.mem_of_getElem? (i := 88) rfl)) (hw _ (List.mem_of_getElem? (i := 34) rfl)) (hw _ (List.mem_of_getElem? (i := 90) rfl)) E_b65 (by decide) (a := b65) (rm11 l Z a0 hw b65 bc68 ((0 : Int32) + (1 : Int32)) ko64 (1 : Int32) vs64 .null h70 n0 C71.size F_b65_arguments F_b65_next V_bc68) (argsL := []) pd11 rfl 1 (by decide) (by decide) (by decide) (by decide) (rest := [(.int (1 : Int32))]) rfl rfl (Nat.le_of_eq rfl) at_125 rfl (fun v72 T72 h72 C72 qq72 => ?_)
      obtain ⟨rfl, hh72⟩ := qq72
      have hh72 := hh72.symm; subst hh72
      show Go p e below F n0 (fun v _ => v = some (.int (1 : Int32))) T72 (mkF m 128 #[.val (.int i0), .val (.int i1), .val (.int i2), .val (.int i3), .val (.int (1 : Int32)), .val (.int (2 : Int32)), .val (.ref bo64), .val (.ref b65), .val (.int (1 : Int32)), .val (.int (1 : Int32))] [(.int (f11 ((0 : Int32) + (1 : Int32)) (1 : Int32))), (.int (1 : Int32))])
      refine C72.iload at_128 rfl rfl ?_
      refine C72.iload at_130 rfl rfl ?_
      refine C72.icmp_ge at_132 (by decide) (by decide : _ = 139) rfl (fun _ => ?_) (fun q => absurd q (by decide))
      refine C72.iconst (0 : Int32) at_139 rfl rfl ?_
      refine C72.icmp_ne at_140 (by decide) (by decide : _ = 147) rfl (fun q => absurd (by decide) q) (fun _ => ?_)
      refine C72.iconst (1 : Int32) at_143 rfl rfl ?_
      refine C72.goto at_144 (by decide) (by decide : _ = 148) ?_
      refine C72.iand at_148 rfl ?_
      rw [own_and11]
      refine C72.istore at_149 rfl (L' := #[.val (.int i0), .val (.int i1), .val (.int i2), .val (.int i3), .val (.int (1 : Int32)), .val (.int (2 : Int32)), .val (.ref bo64), .val (.ref b65), .val (.int (1 : Int32)), .val (.int (1 : Int32))]) rfl ?_
      refine C72.iload at_151 rfl rfl ?_
      refine C72.iconst (2 : Int32) at_153 rfl rfl ?_
      refine C72.icmp_lt at_154 (by decide) (by decide : _ = 172) rfl (fun q => absurd q (by decide)) (fun _ => ?_)
      refine C72.iconst (1 : Int32) at_157 rfl rfl ?_
      refine C72.iload at_158 rfl rfl ?_
      refine C72.icmp_ge at_160 (by decide) (by decide : _ = 172) rfl (fun _ => ?_) (fun q => absurd q (by decide))
      refine C72.iload at_172 rfl rfl ?_
      refine C72.aload at_174 rfl rfl rfl ?_
      refine C72.callV (hw _ (List.mem_of_getElem? (i := 86) rfl)) (hw _ (List.mem_of_getElem? (i := 87) rfl)) (hw _ (List.mem_of_getElem? (i := 89) rfl)) (hw _ (List.mem_of_getElem? (i := 88) rfl)) (hw _ (List.mem_of_getElem? (i := 34) rfl)) (hw _ (List.mem_of_getElem? (i := 90) rfl)) E_b65 (by decide) (a := b65) (rm11 l Z a0 hw b65 bc68 ((0 : Int32) + (1 : Int32)) ko64 (1 : Int32) vs64 .null h70 n0 C72.size F_b65_arguments F_b65_next V_bc68) (argsL := []) pd11 rfl 1 (by decide) (by decide) (by decide) (by decide) (rest := [(.int (1 : Int32))]) rfl rfl (Nat.le_of_eq rfl) at_176 rfl (fun v73 T73 h73 C73 qq73 => ?_)
      obtain ⟨rfl, hh73⟩ := qq73
      have hh73 := hh73.symm; subst hh73
      show Go p e below F n0 (fun v _ => v = some (.int (1 : Int32))) T73 (mkF m 179 #[.val (.int i0), .val (.int i1), .val (.int i2), .val (.int i3), .val (.int (1 : Int32)), .val (.int (2 : Int32)), .val (.ref bo64), .val (.ref b65), .val (.int (1 : Int32)), .val (.int (1 : Int32))] [(.int (f11 ((0 : Int32) + (1 : Int32)) (1 : Int32))), (.int (1 : Int32))])
      refine C73.iload at_179 rfl rfl ?_
      refine C73.iload at_181 rfl rfl ?_
      refine C73.icmp_ge at_183 (by decide) (by decide : _ = 190) rfl (fun _ => ?_) (fun q => absurd q (by decide))
      refine C73.iconst (0 : Int32) at_190 rfl rfl ?_
      refine C73.icmp_ne at_191 (by decide) (by decide : _ = 198) rfl (fun q => absurd (by decide) q) (fun _ => ?_)
      refine C73.iconst (1 : Int32) at_194 rfl rfl ?_
      refine C73.goto at_195 (by decide) (by decide : _ = 199) ?_
      refine C73.iand at_199 rfl ?_
      rw [own_and11]
      refine C73.istore at_200 rfl (L' := #[.val (.int i0), .val (.int i1), .val (.int i2), .val (.int i3), .val (.int (1 : Int32)), .val (.int (2 : Int32)), .val (.ref bo64), .val (.ref b65), .val (.int (1 : Int32)), .val (.int (1 : Int32))]) rfl ?_
      refine C73.iload at_202 rfl rfl ?_
      refine C73.iconst (3 : Int32) at_204 rfl rfl ?_
      refine C73.icmp_lt at_205 (by decide) (by decide : _ = 223) rfl (fun _ => ?_) (fun q => absurd (by decide) q)
      refine C73.iload at_223 rfl rfl ?_
      refine C73.aload at_225 rfl rfl rfl ?_
      refine C73.callV (hw _ (List.mem_of_getElem? (i := 86) rfl)) (hw _ (List.mem_of_getElem? (i := 87) rfl)) (hw _ (List.mem_of_getElem? (i := 89) rfl)) (hw _ (List.mem_of_getElem? (i := 88) rfl)) (hw _ (List.mem_of_getElem? (i := 34) rfl)) (hw _ (List.mem_of_getElem? (i := 90) rfl)) E_b65 (by decide) (a := b65) (rm11 l Z a0 hw b65 bc68 ((0 : Int32) + (1 : Int32)) ko64 (1 : Int32) vs64 .null h70 n0 C73.size F_b65_arguments F_b65_next V_bc68) (argsL := []) pd11 rfl 1 (by decide) (by decide) (by decide) (by decide) (rest := [(.int (1 : Int32))]) rfl rfl (Nat.le_of_eq rfl) at_227 rfl (fun v74 T74 h74 C74 qq74 => ?_)
      obtain ⟨rfl, hh74⟩ := qq74
      have hh74 := hh74.symm; subst hh74
      show Go p e below F n0 (fun v _ => v = some (.int (1 : Int32))) T74 (mkF m 230 #[.val (.int i0), .val (.int i1), .val (.int i2), .val (.int i3), .val (.int (1 : Int32)), .val (.int (2 : Int32)), .val (.ref bo64), .val (.ref b65), .val (.int (1 : Int32)), .val (.int (1 : Int32))] [(.int (f11 ((0 : Int32) + (1 : Int32)) (1 : Int32))), (.int (1 : Int32))])
      refine C74.iload at_230 rfl rfl ?_
      refine C74.iload at_232 rfl rfl ?_
      refine C74.icmp_ge at_234 (by decide) (by decide : _ = 241) rfl (fun _ => ?_) (fun q => absurd q (by decide))
      refine C74.iconst (0 : Int32) at_241 rfl rfl ?_
      refine C74.icmp_ne at_242 (by decide) (by decide : _ = 249) rfl (fun q => absurd (by decide) q) (fun _ => ?_)
      refine C74.iconst (1 : Int32) at_245 rfl rfl ?_
      refine C74.goto at_246 (by decide) (by decide : _ = 250) ?_
      refine C74.iand at_250 rfl ?_
      rw [own_and11]
      refine C74.istore at_251 rfl (L' := #[.val (.int i0), .val (.int i1), .val (.int i2), .val (.int i3), .val (.int (1 : Int32)), .val (.int (2 : Int32)), .val (.ref bo64), .val (.ref b65), .val (.int (1 : Int32)), .val (.int (1 : Int32))]) rfl ?_
      refine C74.iload at_253 rfl rfl ?_
      exact C74.retN (t := .boolean) at_255 rfl (by simp) (by decide) (by decide) (w := (1 : Int32)) rfl rfl
    · subst e
      refine C0.iload at_10 rfl rfl ?_
      refine C0.iloadN at_12 rfl rfl ?_
      refine C0.callS (hw _ (List.mem_of_getElem? (i := 0) rfl)) (hw _ (List.mem_of_getElem? (i := 1) rfl)) (hw _ (List.mem_of_getElem? (i := 2) rfl)) (hw _ (List.mem_of_getElem? (i := 3) rfl)) (by decide) (rm1 l Z a0 hw (1 : Int32) i2 cs h0 n0 C0.size S_COMPACT_STRINGS hcs (Or.inr (Or.inl rfl))) (argsL := [(.int (1 : Int32)), (.int i2)]) pd1 rfl 0 (by decide) (by decide) (by decide) (by decide) (rest := []) rfl rfl (Nat.le_of_eq rfl) at_13 rfl (fun v75 T75 h75 C75 qq75 => ?_)
      obtain ⟨bo75, ko75, vs75, rfl, K75, p75_0, p75_1, p75_2, p75_3⟩ := qq75
      have K75 := ext_keep K75
      have S_COMPACT_STRINGS := S_COMPACT_STRINGS.ext K75
      have S_DEFAULTCAPACITY_EMPTY_ELEMENTDATA := S_DEFAULTCAPACITY_EMPTY_ELEMENTDATA.ext K75
      have E_bo75 := p75_0
      have V_bo75 := p75_1
      have hr := p75_2
      have g_bo75 := p75_3
      show Go p e below F n0 (fun v _ => v = some (.int (1 : Int32))) T75 (mkF m 16 #[.val (.int i0), .val (.int i1), .val (.int i2), .val (.int i3), .val (.int (1 : Int32)), .val (.int (3 : Int32)), .unset, .unset, .unset, .unset] [(.ref bo75)])
      refine C75.astore at_16 rfl rfl (L' := #[.val (.int i0), .val (.int i1), .val (.int i2), .val (.int i3), .val (.int (1 : Int32)), .val (.int (3 : Int32)), .val (.ref bo75), .unset, .unset, .unset]) rfl ?_
      refine C75.new (hw _ (List.mem_of_getElem? (i := 32) rfl)) (hw _ (List.mem_of_getElem? (i := 33) rfl)) (hw _ (List.mem_of_getElem? (i := 34) rfl)) at_18 rfl (by decide) (by decide) (fun T76 h76 b76 C76 e76 g_b76 E76 E_b76 D76 => ?_)
      have ne_bo75_b76 : bo75 ≠ b76 := Nat.ne_of_lt (Nat.lt_of_lt_of_eq E_bo75.lt e76.symm)
      have S_COMPACT_STRINGS := S_COMPACT_STRINGS.ext E76
      have S_DEFAULTCAPACITY_EMPTY_ELEMENTDATA := S_DEFAULTCAPACITY_EMPTY_ELEMENTDATA.ext E76
      have E_bo75 := E_bo75.ext E76
      have V_bo75 := V_bo75.ext E76
      have F_b76_operands : Fld Z h76 b76 "com/example/bouncer/bouncer/cli/Arguments" "operands" "Ljava/util/List;" .null := D76 (Or.inr (hw _ (List.mem_of_getElem? (i := 68) rfl))) (ty := (.object "java/util/List")) (by decide)
      have F_b76_command : Fld Z h76 b76 "com/example/bouncer/bouncer/cli/Arguments" "command" "Ljava/lang/String;" .null := D76 (Or.inr (hw _ (List.mem_of_getElem? (i := 70) rfl))) (ty := (.object "java/lang/String")) (by decide)
      have F_b76_usage : Fld Z h76 b76 "com/example/bouncer/bouncer/cli/Arguments" "usage" "Ljava/lang/String;" .null := D76 (Or.inr (hw _ (List.mem_of_getElem? (i := 72) rfl))) (ty := (.object "java/lang/String")) (by decide)
      have F_b76_arguments : Fld Z h76 b76 "com/example/bouncer/bouncer/cli/Arguments" "arguments" "[Ljava/lang/String;" .null := D76 (Or.inr (hw _ (List.mem_of_getElem? (i := 83) rfl))) (ty := (.array (.object "java/lang/String"))) (by decide)
      have F_b76_maxOperands : Fld Z h76 b76 "com/example/bouncer/bouncer/cli/Arguments" "maxOperands" "I" (.int (0 : Int32)) := D76 (Or.inr (hw _ (List.mem_of_getElem? (i := 85) rfl))) (ty := .int) (by decide)
      have F_b76_next : Fld Z h76 b76 "com/example/bouncer/bouncer/cli/Arguments" "next" "I" (.int (0 : Int32)) := D76 (Or.inl (hw _ (List.mem_of_getElem? (i := 92) rfl))) (ty := .int) (by decide)
      refine C76.dup at_21 rfl rfl ?_
      refine C76.ldcStr (hw _ (List.mem_of_getElem? (i := 35) rfl)) (own_wS hw) 4 (by decide) (by decide) (by decide) (by decide) at_22 rfl (fun s77 T77 h77 C77 E77 => ?_)
      have S_COMPACT_STRINGS := S_COMPACT_STRINGS.ext E77
      have S_DEFAULTCAPACITY_EMPTY_ELEMENTDATA := S_DEFAULTCAPACITY_EMPTY_ELEMENTDATA.ext E77
      have E_bo75 := E_bo75.ext E77
      have V_bo75 := V_bo75.ext E77
      have E_b76 := E_b76.ext E77
      have F_b76_operands := F_b76_operands.ext E77
      have F_b76_command := F_b76_command.ext E77
      have F_b76_usage := F_b76_usage.ext E77
      have F_b76_arguments := F_b76_arguments.ext E77
      have F_b76_maxOperands := F_b76_maxOperands.ext E77
      have F_b76_next := F_b76_next.ext E77
      refine C77.ldcStr (hw _ (List.mem_of_getElem? (i := 38) rfl)) (own_wS hw) 4 (by decide) (by decide) (by decide) (by decide) at_24 rfl (fun s78 T78 h78 C78 E78 => ?_)
      have S_COMPACT_STRINGS := S_COMPACT_STRINGS.ext E78
      have S_DEFAULTCAPACITY_EMPTY_ELEMENTDATA := S_DEFAULTCAPACITY_EMPTY_ELEMENTDATA.ext E78
      have E_bo75 := E_bo75.ext E78
      have V_bo75 := V_bo75.ext E78
      have E_b76 := E_b76.ext E78
      have F_b76_operands := F_b76_operands.ext E78
      have F_b76_command := F_b76_command.ext E78
      have F_b76_usage := F_b76_usage.ext E78
      have F_b76_arguments := F_b76_arguments.ext E78
      have F_b76_maxOperands := F_b76_maxOperands.ext E78
      have F_b76_next := F_b76_next.ext E78
      refine C78.aload at_26 rfl rfl rfl ?_
      refine C78.iloadN at_28 rfl rfl ?_
      refine C78.callN rfl (hw _ (List.mem_of_getElem? (i := 39) rfl)) (hw _ (List.mem_of_getElem? (i := 40) rfl)) (hw _ (List.mem_of_getElem? (i := 34) rfl)) (hw _ (List.mem_of_getElem? (i := 41) rfl)) (by decide) (a := b76) (rm7 l Z a0 hw b76 s77 s78 bo75 i3 de .null .null .null .null (.int (0 : Int32)) ko75 (1 : Int32) vs75 .null h78 n0 C78.size E_b76 F_b76_operands F_b76_command F_b76_usage F_b76_arguments F_b76_maxOperands F_b76_next g_b76 S_DEFAULTCAPACITY_EMPTY_ELEMENTDATA E_bo75 V_bo75 (by decide)) (argsL := [(.ref s77), (.ref s78), (.ref bo75), (.int i3)]) pd7 rfl 1 (by decide) (by decide) (by decide) (by decide) (rest := [(.ref b76)]) rfl rfl (Nat.le_of_eq rfl) at_29 rfl (fun v79 T79 h79 C79 qq79 => ?_)
      obtain ⟨bc79, rfl, K79, p79_0, p79_1, p79_2, p79_3, p79_4, p79_5⟩ := qq79
      have S_COMPACT_STRINGS := own_stak S_COMPACT_STRINGS K79 (allS (own_plainE E_b76) (all0))
      have S_DEFAULTCAPACITY_EMPTY_ELEMENTDATA := own_stak S_DEFAULTCAPACITY_EMPTY_ELEMENTDATA K79 (allS (own_plainE E_b76) (all0))
      have E_bo75 := E_bo75.keep K79
      have V_bo75 := V_bo75.keep K79 (ninS ne_bo75_b76 nin0)
      have E_b76 := E_b76.keep K79
      have E_b76 := p79_0
      have F_b76_arguments := p79_1
      have F_b76_next := p79_2
      have E_bc79 := p79_3
      have V_bc79 := p79_4
      have g_bc79 := p79_5
      show Go p e below F n0 (fun v _ => v = some (.int (1 : Int32))) T79 (mkF m 32 #[.val (.int i0), .val (.int i1), .val (.int i2), .val (.int i3), .val (.int (1 : Int32)), .val (.int (3 : Int32)), .val (.ref bo75), .unset, .unset, .unset] [(.ref b76)])
      refine C79.astore at_32 rfl rfl (L' := #[.val (.int i0), .val (.int i1), .val (.int i2), .val (.int i3), .val (.int (1 : Int32)), .val (.int (3 : Int32)), .val (.ref bo75), .val (.ref b76), .unset, .unset]) rfl ?_
      refine C79.iconst (1 : Int32) at_34 rfl rfl ?_
      refine C79.istore at_35 rfl (L' := #[.val (.int i0), .val (.int i1), .val (.int i2), .val (.int i3), .val (.int (1 : Int32)), .val (.int (3 : Int32)), .val (.ref bo75), .val (.ref b76), .val (.int (1 : Int32)), .unset]) rfl ?_
      refine C79.iconst (0 : Int32) at_37 rfl rfl ?_
      refine C79.istore at_38 rfl (L' := #[.val (.int i0), .val (.int i1), .val (.int i2), .val (.int i3), .val (.int (1 : Int32)), .val (.int (3 : Int32)), .val (.ref bo75), .val (.ref b76), .val (.int (1 : Int32)), .val (.int (0 : Int32))]) rfl ?_
      refine C79.iload at_40 rfl rfl ?_
      refine C79.aload at_42 rfl rfl rfl ?_
      refine C79.callV (hw _ (List.mem_of_getElem? (i := 86) rfl)) (hw _ (List.mem_of_getElem? (i := 87) rfl)) (hw _ (List.mem_of_getElem? (i := 89) rfl)) (hw _ (List.mem_of_getElem? (i := 88) rfl)) (hw _ (List.mem_of_getElem? (i := 34) rfl)) (hw _ (List.mem_of_getElem? (i := 90) rfl)) E_b76 (by decide) (a := b76) (rm11 l Z a0 hw b76 bc79 (0 : Int32) ko75 (1 : Int32) vs75 .null h79 n0 C79.size F_b76_arguments F_b76_next V_bc79) (argsL := []) pd11 rfl 1 (by decide) (by decide) (by decide) (by decide) (rest := [(.int (1 : Int32))]) rfl rfl (Nat.le_of_eq rfl) at_44 rfl (fun v80 T80 h80 C80 qq80 => ?_)
      obtain ⟨rfl, hh80⟩ := qq80
      have hh80 := hh80.symm; subst hh80
      show Go p e below F n0 (fun v _ => v = some (.int (1 : Int32))) T80 (mkF m 47 #[.val (.int i0), .val (.int i1), .val (.int i2), .val (.int i3), .val (.int (1 : Int32)), .val (.int (3 : Int32)), .val (.ref bo75), .val (.ref b76), .val (.int (1 : Int32)), .val (.int (0 : Int32))] [(.int (f11 (0 : Int32) (1 : Int32))), (.int (1 : Int32))])
      refine C80.iload at_47 rfl rfl ?_
      refine C80.iload at_49 rfl rfl ?_
      refine C80.icmp_ge at_51 (by decide) (by decide : _ = 58) rfl (fun q => absurd (by decide) q) (fun _ => ?_)
      refine C80.iconst (1 : Int32) at_54 rfl rfl ?_
      refine C80.goto at_55 (by decide) (by decide : _ = 59) ?_
      refine C80.icmp_ne at_59 (by decide) (by decide : _ = 66) rfl (fun q => absurd (by decide) q) (fun _ => ?_)
      refine C80.iconst (1 : Int32) at_62 rfl rfl ?_
      refine C80.goto at_63 (by decide) (by decide : _ = 67) ?_
      refine C80.iand at_67 rfl ?_
      rw [own_and11]
      refine C80.istore at_68 rfl (L' := #[.val (.int i0), .val (.int i1), .val (.int i2), .val (.int i3), .val (.int (1 : Int32)), .val (.int (3 : Int32)), .val (.ref bo75), .val (.ref b76), .val (.int (1 : Int32)), .val (.int (0 : Int32))]) rfl ?_
      refine C80.iload at_70 rfl rfl ?_
      refine C80.iconst (1 : Int32) at_72 rfl rfl ?_
      refine C80.icmp_lt at_73 (by decide) (by decide : _ = 91) rfl (fun q => absurd q (by decide)) (fun _ => ?_)
      refine C80.iconst (0 : Int32) at_76 rfl rfl ?_
      refine C80.iload at_77 rfl rfl ?_
      refine C80.icmp_ge at_79 (by decide) (by decide : _ = 91) rfl (fun q => absurd (by decide) q) (fun _ => ?_)
      refine C80.aload at_82 rfl rfl rfl ?_
      refine C80.callV (hw _ (List.mem_of_getElem? (i := 93) rfl)) (hw _ (List.mem_of_getElem? (i := 94) rfl)) (hw _ (List.mem_of_getElem? (i := 96) rfl)) (hw _ (List.mem_of_getElem? (i := 95) rfl)) (hw _ (List.mem_of_getElem? (i := 34) rfl)) (hw _ (List.mem_of_getElem? (i := 97) rfl)) E_b76 (by decide) (a := b76) (rm12 l Z a0 hw b76 bc79 (0 : Int32) ko75 (1 : Int32) vs75 .null h79 n0 C80.size E_b76 F_b76_arguments F_b76_next V_bc79 E_bc79 g_b76 ⟨by decide, by decide⟩ hr) (argsL := []) pd12 rfl 0 (by decide) (by decide) (by decide) (by decide) (rest := []) rfl rfl (Nat.le_of_eq rfl) at_84 rfl (fun v81 T81 h81 C81 qq81 => ?_)
      obtain ⟨rfl, K81, p81_0, p81_1, p81_2⟩ := qq81
      have ne_bc79_b76 : bc79 ≠ b76 := (ne_exa E_bc79 E_b76 (by decide))
      have S_COMPACT_STRINGS := own_stak S_COMPACT_STRINGS K81 (allS (own_plainE E_b76) (all0))
      have S_DEFAULTCAPACITY_EMPTY_ELEMENTDATA := own_stak S_DEFAULTCAPACITY_EMPTY_ELEMENTDATA K81 (allS (own_plainE E_b76) (all0))
      have E_bo75 := E_bo75.keep K81
      have V_bo75 := V_bo75.keep K81 (ninS ne_bo75_b76 nin0)
      have E_b76 := E_b76.keep K81
      have E_bc79 := E_bc79.keep K81
      have V_bc79 := V_bc79.keep K81 (ninS ne_bc79_b76 nin0)
      have E_b76 := p81_0
      have F_b76_arguments := p81_1
      have F_b76_next := p81_2
      show Go p e below F n0 (fun v _ => v = some (.int (1 : Int32))) T81 (mkF m 87 #[.val (.int i0), .val (.int i1), .val (.int i2), .val (.int i3), .val (.int (1 : Int32)), .val (.int (3 : Int32)), .val (.ref bo75), .val (.ref b76), .val (.int (1 : Int32)), .val (.int (0 : Int32))] [(vs75.getD ((0 : Int32)).toNatClampNeg .null)])
      refine C81.pop at_87 rfl (XT.cat1 (hr _)) ?_
      refine C81.iconst (1 : Int32) at_88 rfl rfl ?_
      refine C81.istore at_89 rfl (L' := #[.val (.int i0), .val (.int i1), .val (.int i2), .val (.int i3), .val (.int (1 : Int32)), .val (.int (3 : Int32)), .val (.ref bo75), .val (.ref b76), .val (.int (1 : Int32)), .val (.int (1 : Int32))]) rfl ?_
      refine C81.iload at_91 rfl rfl ?_
      refine C81.aload at_93 rfl rfl rfl ?_
      refine C81.callV (hw _ (List.mem_of_getElem? (i := 86) rfl)) (hw _ (List.mem_of_getElem? (i := 87) rfl)) (hw _ (List.mem_of_getElem? (i := 89) rfl)) (hw _ (List.mem_of_getElem? (i := 88) rfl)) (hw _ (List.mem_of_getElem? (i := 34) rfl)) (hw _ (List.mem_of_getElem? (i := 90) rfl)) E_b76 (by decide) (a := b76) (rm11 l Z a0 hw b76 bc79 ((0 : Int32) + (1 : Int32)) ko75 (1 : Int32) vs75 .null h81 n0 C81.size F_b76_arguments F_b76_next V_bc79) (argsL := []) pd11 rfl 1 (by decide) (by decide) (by decide) (by decide) (rest := [(.int (1 : Int32))]) rfl rfl (Nat.le_of_eq rfl) at_95 rfl (fun v82 T82 h82 C82 qq82 => ?_)
      obtain ⟨rfl, hh82⟩ := qq82
      have hh82 := hh82.symm; subst hh82
      show Go p e below F n0 (fun v _ => v = some (.int (1 : Int32))) T82 (mkF m 98 #[.val (.int i0), .val (.int i1), .val (.int i2), .val (.int i3), .val (.int (1 : Int32)), .val (.int (3 : Int32)), .val (.ref bo75), .val (.ref b76), .val (.int (1 : Int32)), .val (.int (1 : Int32))] [(.int (f11 ((0 : Int32) + (1 : Int32)) (1 : Int32))), (.int (1 : Int32))])
      refine C82.iload at_98 rfl rfl ?_
      refine C82.iload at_100 rfl rfl ?_
      refine C82.icmp_ge at_102 (by decide) (by decide : _ = 109) rfl (fun _ => ?_) (fun q => absurd q (by decide))
      refine C82.iconst (0 : Int32) at_109 rfl rfl ?_
      refine C82.icmp_ne at_110 (by decide) (by decide : _ = 117) rfl (fun q => absurd (by decide) q) (fun _ => ?_)
      refine C82.iconst (1 : Int32) at_113 rfl rfl ?_
      refine C82.goto at_114 (by decide) (by decide : _ = 118) ?_
      refine C82.iand at_118 rfl ?_
      rw [own_and11]
      refine C82.istore at_119 rfl (L' := #[.val (.int i0), .val (.int i1), .val (.int i2), .val (.int i3), .val (.int (1 : Int32)), .val (.int (3 : Int32)), .val (.ref bo75), .val (.ref b76), .val (.int (1 : Int32)), .val (.int (1 : Int32))]) rfl ?_
      refine C82.iload at_121 rfl rfl ?_
      refine C82.aload at_123 rfl rfl rfl ?_
      refine C82.callV (hw _ (List.mem_of_getElem? (i := 86) rfl)) (hw _ (List.mem_of_getElem? (i := 87) rfl)) (hw _ (List.mem_of_getElem? (i := 89) rfl)) (hw _ (List.mem_of_getElem? (i := 88) rfl)) (hw _ (List.mem_of_getElem? (i := 34) rfl)) (hw _ (List.mem_of_getElem? (i := 90) rfl)) E_b76 (by decide) (a := b76) (rm11 l Z a0 hw b76 bc79 ((0 : Int32) + (1 : Int32)) ko75 (1 : Int32) vs75 .null h81 n0 C82.size F_b76_arguments F_b76_next V_bc79) (argsL := []) pd11 rfl 1 (by decide) (by decide) (by decide) (by decide) (rest := [(.int (1 : Int32))]) rfl rfl (Nat.le_of_eq rfl) at_125 rfl (fun v83 T83 h83 C83 qq83 => ?_)
      obtain ⟨rfl, hh83⟩ := qq83
      have hh83 := hh83.symm; subst hh83
      show Go p e below F n0 (fun v _ => v = some (.int (1 : Int32))) T83 (mkF m 128 #[.val (.int i0), .val (.int i1), .val (.int i2), .val (.int i3), .val (.int (1 : Int32)), .val (.int (3 : Int32)), .val (.ref bo75), .val (.ref b76), .val (.int (1 : Int32)), .val (.int (1 : Int32))] [(.int (f11 ((0 : Int32) + (1 : Int32)) (1 : Int32))), (.int (1 : Int32))])
      refine C83.iload at_128 rfl rfl ?_
      refine C83.iload at_130 rfl rfl ?_
      refine C83.icmp_ge at_132 (by decide) (by decide : _ = 139) rfl (fun _ => ?_) (fun q => absurd q (by decide))
      refine C83.iconst (0 : Int32) at_139 rfl rfl ?_
      refine C83.icmp_ne at_140 (by decide) (by decide : _ = 147) rfl (fun q => absurd (by decide) q) (fun _ => ?_)
      refine C83.iconst (1 : Int32) at_143 rfl rfl ?_
      refine C83.goto at_144 (by decide) (by decide : _ = 148) ?_
      refine C83.iand at_148 rfl ?_
      rw [own_and11]
      refine C83.istore at_149 rfl (L' := #[.val (.int i0), .val (.int i1), .val (.int i2), .val (.int i3), .val (.int (1 : Int32)), .val (.int (3 : Int32)), .val (.ref bo75), .val (.ref b76), .val (.int (1 : Int32)), .val (.int (1 : Int32))]) rfl ?_
      refine C83.iload at_151 rfl rfl ?_
      refine C83.iconst (2 : Int32) at_153 rfl rfl ?_
      refine C83.icmp_lt at_154 (by decide) (by decide : _ = 172) rfl (fun q => absurd q (by decide)) (fun _ => ?_)
      refine C83.iconst (1 : Int32) at_157 rfl rfl ?_
      refine C83.iload at_158 rfl rfl ?_
      refine C83.icmp_ge at_160 (by decide) (by decide : _ = 172) rfl (fun _ => ?_) (fun q => absurd q (by decide))
      refine C83.iload at_172 rfl rfl ?_
      refine C83.aload at_174 rfl rfl rfl ?_
      refine C83.callV (hw _ (List.mem_of_getElem? (i := 86) rfl)) (hw _ (List.mem_of_getElem? (i := 87) rfl)) (hw _ (List.mem_of_getElem? (i := 89) rfl)) (hw _ (List.mem_of_getElem? (i := 88) rfl)) (hw _ (List.mem_of_getElem? (i := 34) rfl)) (hw _ (List.mem_of_getElem? (i := 90) rfl)) E_b76 (by decide) (a := b76) (rm11 l Z a0 hw b76 bc79 ((0 : Int32) + (1 : Int32)) ko75 (1 : Int32) vs75 .null h81 n0 C83.size F_b76_arguments F_b76_next V_bc79) (argsL := []) pd11 rfl 1 (by decide) (by decide) (by decide) (by decide) (rest := [(.int (1 : Int32))]) rfl rfl (Nat.le_of_eq rfl) at_176 rfl (fun v84 T84 h84 C84 qq84 => ?_)
      obtain ⟨rfl, hh84⟩ := qq84
      have hh84 := hh84.symm; subst hh84
      show Go p e below F n0 (fun v _ => v = some (.int (1 : Int32))) T84 (mkF m 179 #[.val (.int i0), .val (.int i1), .val (.int i2), .val (.int i3), .val (.int (1 : Int32)), .val (.int (3 : Int32)), .val (.ref bo75), .val (.ref b76), .val (.int (1 : Int32)), .val (.int (1 : Int32))] [(.int (f11 ((0 : Int32) + (1 : Int32)) (1 : Int32))), (.int (1 : Int32))])
      refine C84.iload at_179 rfl rfl ?_
      refine C84.iload at_181 rfl rfl ?_
      refine C84.icmp_ge at_183 (by decide) (by decide : _ = 190) rfl (fun _ => ?_) (fun q => absurd q (by decide))
      refine C84.iconst (0 : Int32) at_190 rfl rfl ?_
      refine C84.icmp_ne at_191 (by decide) (by decide : _ = 198) rfl (fun q => absurd (by decide) q) (fun _ => ?_)
      refine C84.iconst (1 : Int32) at_194 rfl rfl ?_
      refine C84.goto at_195 (by decide) (by decide : _ = 199) ?_
      refine C84.iand at_199 rfl ?_
      rw [own_and11]
      refine C84.istore at_200 rfl (L' := #[.val (.int i0), .val (.int i1), .val (.int i2), .val (.int i3), .val (.int (1 : Int32)), .val (.int (3 : Int32)), .val (.ref bo75), .val (.ref b76), .val (.int (1 : Int32)), .val (.int (1 : Int32))]) rfl ?_
      refine C84.iload at_202 rfl rfl ?_
      refine C84.iconst (3 : Int32) at_204 rfl rfl ?_
      refine C84.icmp_lt at_205 (by decide) (by decide : _ = 223) rfl (fun q => absurd q (by decide)) (fun _ => ?_)
      refine C84.iconst (2 : Int32) at_208 rfl rfl ?_
      refine C84.iload at_209 rfl rfl ?_
      refine C84.icmp_ge at_211 (by decide) (by decide : _ = 223) rfl (fun _ => ?_) (fun q => absurd q (by decide))
      refine C84.iload at_223 rfl rfl ?_
      refine C84.aload at_225 rfl rfl rfl ?_
      refine C84.callV (hw _ (List.mem_of_getElem? (i := 86) rfl)) (hw _ (List.mem_of_getElem? (i := 87) rfl)) (hw _ (List.mem_of_getElem? (i := 89) rfl)) (hw _ (List.mem_of_getElem? (i := 88) rfl)) (hw _ (List.mem_of_getElem? (i := 34) rfl)) (hw _ (List.mem_of_getElem? (i := 90) rfl)) E_b76 (by decide) (a := b76) (rm11 l Z a0 hw b76 bc79 ((0 : Int32) + (1 : Int32)) ko75 (1 : Int32) vs75 .null h81 n0 C84.size F_b76_arguments F_b76_next V_bc79) (argsL := []) pd11 rfl 1 (by decide) (by decide) (by decide) (by decide) (rest := [(.int (1 : Int32))]) rfl rfl (Nat.le_of_eq rfl) at_227 rfl (fun v85 T85 h85 C85 qq85 => ?_)
      obtain ⟨rfl, hh85⟩ := qq85
      have hh85 := hh85.symm; subst hh85
      show Go p e below F n0 (fun v _ => v = some (.int (1 : Int32))) T85 (mkF m 230 #[.val (.int i0), .val (.int i1), .val (.int i2), .val (.int i3), .val (.int (1 : Int32)), .val (.int (3 : Int32)), .val (.ref bo75), .val (.ref b76), .val (.int (1 : Int32)), .val (.int (1 : Int32))] [(.int (f11 ((0 : Int32) + (1 : Int32)) (1 : Int32))), (.int (1 : Int32))])
      refine C85.iload at_230 rfl rfl ?_
      refine C85.iload at_232 rfl rfl ?_
      refine C85.icmp_ge at_234 (by decide) (by decide : _ = 241) rfl (fun _ => ?_) (fun q => absurd q (by decide))
      refine C85.iconst (0 : Int32) at_241 rfl rfl ?_
      refine C85.icmp_ne at_242 (by decide) (by decide : _ = 249) rfl (fun q => absurd (by decide) q) (fun _ => ?_)
      refine C85.iconst (1 : Int32) at_245 rfl rfl ?_
      refine C85.goto at_246 (by decide) (by decide : _ = 250) ?_
      refine C85.iand at_250 rfl ?_
      rw [own_and11]
      refine C85.istore at_251 rfl (L' := #[.val (.int i0), .val (.int i1), .val (.int i2), .val (.int i3), .val (.int (1 : Int32)), .val (.int (3 : Int32)), .val (.ref bo75), .val (.ref b76), .val (.int (1 : Int32)), .val (.int (1 : Int32))]) rfl ?_
      refine C85.iload at_253 rfl rfl ?_
      exact C85.retN (t := .boolean) at_255 rfl (by simp) (by decide) (by decide) (w := (1 : Int32)) rfl rfl
  · subst e
    rcases own_c4 hv2 with e | e | e | e
    · subst e
      refine C0.iload at_10 rfl rfl ?_
      refine C0.iloadN at_12 rfl rfl ?_
      refine C0.callS (hw _ (List.mem_of_getElem? (i := 0) rfl)) (hw _ (List.mem_of_getElem? (i := 1) rfl)) (hw _ (List.mem_of_getElem? (i := 2) rfl)) (hw _ (List.mem_of_getElem? (i := 3) rfl)) (by decide) (rm1 l Z a0 hw (2 : Int32) i2 cs h0 n0 C0.size S_COMPACT_STRINGS hcs (Or.inr (Or.inr (Or.inl rfl)))) (argsL := [(.int (2 : Int32)), (.int i2)]) pd1 rfl 0 (by decide) (by decide) (by decide) (by decide) (rest := []) rfl rfl (Nat.le_of_eq rfl) at_13 rfl (fun v86 T86 h86 C86 qq86 => ?_)
      obtain ⟨bo86, ko86, vs86, rfl, K86, p86_0, p86_1, p86_2, p86_3⟩ := qq86
      have K86 := ext_keep K86
      have S_COMPACT_STRINGS := S_COMPACT_STRINGS.ext K86
      have S_DEFAULTCAPACITY_EMPTY_ELEMENTDATA := S_DEFAULTCAPACITY_EMPTY_ELEMENTDATA.ext K86
      have E_bo86 := p86_0
      have V_bo86 := p86_1
      have hr := p86_2
      have g_bo86 := p86_3
      show Go p e below F n0 (fun v _ => v = some (.int (1 : Int32))) T86 (mkF m 16 #[.val (.int i0), .val (.int i1), .val (.int i2), .val (.int i3), .val (.int (2 : Int32)), .val (.int (0 : Int32)), .unset, .unset, .unset, .unset] [(.ref bo86)])
      refine C86.astore at_16 rfl rfl (L' := #[.val (.int i0), .val (.int i1), .val (.int i2), .val (.int i3), .val (.int (2 : Int32)), .val (.int (0 : Int32)), .val (.ref bo86), .unset, .unset, .unset]) rfl ?_
      refine C86.new (hw _ (List.mem_of_getElem? (i := 32) rfl)) (hw _ (List.mem_of_getElem? (i := 33) rfl)) (hw _ (List.mem_of_getElem? (i := 34) rfl)) at_18 rfl (by decide) (by decide) (fun T87 h87 b87 C87 e87 g_b87 E87 E_b87 D87 => ?_)
      have ne_bo86_b87 : bo86 ≠ b87 := Nat.ne_of_lt (Nat.lt_of_lt_of_eq E_bo86.lt e87.symm)
      have S_COMPACT_STRINGS := S_COMPACT_STRINGS.ext E87
      have S_DEFAULTCAPACITY_EMPTY_ELEMENTDATA := S_DEFAULTCAPACITY_EMPTY_ELEMENTDATA.ext E87
      have E_bo86 := E_bo86.ext E87
      have V_bo86 := V_bo86.ext E87
      have F_b87_operands : Fld Z h87 b87 "com/example/bouncer/bouncer/cli/Arguments" "operands" "Ljava/util/List;" .null := D87 (Or.inr (hw _ (List.mem_of_getElem? (i := 68) rfl))) (ty := (.object "java/util/List")) (by decide)
      have F_b87_command : Fld Z h87 b87 "com/example/bouncer/bouncer/cli/Arguments" "command" "Ljava/lang/String;" .null := D87 (Or.inr (hw _ (List.mem_of_getElem? (i := 70) rfl))) (ty := (.object "java/lang/String")) (by decide)
      have F_b87_usage : Fld Z h87 b87 "com/example/bouncer/bouncer/cli/Arguments" "usage" "Ljava/lang/String;" .null := D87 (Or.inr (hw _ (List.mem_of_getElem? (i := 72) rfl))) (ty := (.object "java/lang/String")) (by decide)
      have F_b87_arguments : Fld Z h87 b87 "com/example/bouncer/bouncer/cli/Arguments" "arguments" "[Ljava/lang/String;" .null := D87 (Or.inr (hw _ (List.mem_of_getElem? (i := 83) rfl))) (ty := (.array (.object "java/lang/String"))) (by decide)
      have F_b87_maxOperands : Fld Z h87 b87 "com/example/bouncer/bouncer/cli/Arguments" "maxOperands" "I" (.int (0 : Int32)) := D87 (Or.inr (hw _ (List.mem_of_getElem? (i := 85) rfl))) (ty := .int) (by decide)
      have F_b87_next : Fld Z h87 b87 "com/example/bouncer/bouncer/cli/Arguments" "next" "I" (.int (0 : Int32)) := D87 (Or.inl (hw _ (List.mem_of_getElem? (i := 92) rfl))) (ty := .int) (by decide)
      refine C87.dup at_21 rfl rfl ?_
      refine C87.ldcStr (hw _ (List.mem_of_getElem? (i := 35) rfl)) (own_wS hw) 4 (by decide) (by decide) (by decide) (by decide) at_22 rfl (fun s88 T88 h88 C88 E88 => ?_)
      have S_COMPACT_STRINGS := S_COMPACT_STRINGS.ext E88
      have S_DEFAULTCAPACITY_EMPTY_ELEMENTDATA := S_DEFAULTCAPACITY_EMPTY_ELEMENTDATA.ext E88
      have E_bo86 := E_bo86.ext E88
      have V_bo86 := V_bo86.ext E88
      have E_b87 := E_b87.ext E88
      have F_b87_operands := F_b87_operands.ext E88
      have F_b87_command := F_b87_command.ext E88
      have F_b87_usage := F_b87_usage.ext E88
      have F_b87_arguments := F_b87_arguments.ext E88
      have F_b87_maxOperands := F_b87_maxOperands.ext E88
      have F_b87_next := F_b87_next.ext E88
      refine C88.ldcStr (hw _ (List.mem_of_getElem? (i := 38) rfl)) (own_wS hw) 4 (by decide) (by decide) (by decide) (by decide) at_24 rfl (fun s89 T89 h89 C89 E89 => ?_)
      have S_COMPACT_STRINGS := S_COMPACT_STRINGS.ext E89
      have S_DEFAULTCAPACITY_EMPTY_ELEMENTDATA := S_DEFAULTCAPACITY_EMPTY_ELEMENTDATA.ext E89
      have E_bo86 := E_bo86.ext E89
      have V_bo86 := V_bo86.ext E89
      have E_b87 := E_b87.ext E89
      have F_b87_operands := F_b87_operands.ext E89
      have F_b87_command := F_b87_command.ext E89
      have F_b87_usage := F_b87_usage.ext E89
      have F_b87_arguments := F_b87_arguments.ext E89
      have F_b87_maxOperands := F_b87_maxOperands.ext E89
      have F_b87_next := F_b87_next.ext E89
      refine C89.aload at_26 rfl rfl rfl ?_
      refine C89.iloadN at_28 rfl rfl ?_
      refine C89.callN rfl (hw _ (List.mem_of_getElem? (i := 39) rfl)) (hw _ (List.mem_of_getElem? (i := 40) rfl)) (hw _ (List.mem_of_getElem? (i := 34) rfl)) (hw _ (List.mem_of_getElem? (i := 41) rfl)) (by decide) (a := b87) (rm7 l Z a0 hw b87 s88 s89 bo86 i3 de .null .null .null .null (.int (0 : Int32)) ko86 (2 : Int32) vs86 .null h89 n0 C89.size E_b87 F_b87_operands F_b87_command F_b87_usage F_b87_arguments F_b87_maxOperands F_b87_next g_b87 S_DEFAULTCAPACITY_EMPTY_ELEMENTDATA E_bo86 V_bo86 (by decide)) (argsL := [(.ref s88), (.ref s89), (.ref bo86), (.int i3)]) pd7 rfl 1 (by decide) (by decide) (by decide) (by decide) (rest := [(.ref b87)]) rfl rfl (Nat.le_of_eq rfl) at_29 rfl (fun v90 T90 h90 C90 qq90 => ?_)
      obtain ⟨bc90, rfl, K90, p90_0, p90_1, p90_2, p90_3, p90_4, p90_5⟩ := qq90
      have S_COMPACT_STRINGS := own_stak S_COMPACT_STRINGS K90 (allS (own_plainE E_b87) (all0))
      have S_DEFAULTCAPACITY_EMPTY_ELEMENTDATA := own_stak S_DEFAULTCAPACITY_EMPTY_ELEMENTDATA K90 (allS (own_plainE E_b87) (all0))
      have E_bo86 := E_bo86.keep K90
      have V_bo86 := V_bo86.keep K90 (ninS ne_bo86_b87 nin0)
      have E_b87 := E_b87.keep K90
      have E_b87 := p90_0
      have F_b87_arguments := p90_1
      have F_b87_next := p90_2
      have E_bc90 := p90_3
      have V_bc90 := p90_4
      have g_bc90 := p90_5
      show Go p e below F n0 (fun v _ => v = some (.int (1 : Int32))) T90 (mkF m 32 #[.val (.int i0), .val (.int i1), .val (.int i2), .val (.int i3), .val (.int (2 : Int32)), .val (.int (0 : Int32)), .val (.ref bo86), .unset, .unset, .unset] [(.ref b87)])
      refine C90.astore at_32 rfl rfl (L' := #[.val (.int i0), .val (.int i1), .val (.int i2), .val (.int i3), .val (.int (2 : Int32)), .val (.int (0 : Int32)), .val (.ref bo86), .val (.ref b87), .unset, .unset]) rfl ?_
      refine C90.iconst (1 : Int32) at_34 rfl rfl ?_
      refine C90.istore at_35 rfl (L' := #[.val (.int i0), .val (.int i1), .val (.int i2), .val (.int i3), .val (.int (2 : Int32)), .val (.int (0 : Int32)), .val (.ref bo86), .val (.ref b87), .val (.int (1 : Int32)), .unset]) rfl ?_
      refine C90.iconst (0 : Int32) at_37 rfl rfl ?_
      refine C90.istore at_38 rfl (L' := #[.val (.int i0), .val (.int i1), .val (.int i2), .val (.int i3), .val (.int (2 : Int32)), .val (.int (0 : Int32)), .val (.ref bo86), .val (.ref b87), .val (.int (1 : Int32)), .val (.int (0 : Int32))]) rfl ?_
      refine C90.iload at_40 rfl rfl ?_
      refine C90.aload at_42 rfl rfl rfl ?_
      refine C90.callV (hw _ (List.mem_of_getElem? (i := 86) rfl)) (hw _ (List.mem_of_getElem? (i := 87) rfl)) (hw _ (List.mem_of_getElem? (i := 89) rfl)) (hw _ (List.mem_of_getElem? (i := 88) rfl)) (hw _ (List.mem_of_getElem? (i := 34) rfl)) (hw _ (List.mem_of_getElem? (i := 90) rfl)) E_b87 (by decide) (a := b87) (rm11 l Z a0 hw b87 bc90 (0 : Int32) ko86 (2 : Int32) vs86 .null h90 n0 C90.size F_b87_arguments F_b87_next V_bc90) (argsL := []) pd11 rfl 1 (by decide) (by decide) (by decide) (by decide) (rest := [(.int (1 : Int32))]) rfl rfl (Nat.le_of_eq rfl) at_44 rfl (fun v91 T91 h91 C91 qq91 => ?_)
      obtain ⟨rfl, hh91⟩ := qq91
      have hh91 := hh91.symm; subst hh91
      show Go p e below F n0 (fun v _ => v = some (.int (1 : Int32))) T91 (mkF m 47 #[.val (.int i0), .val (.int i1), .val (.int i2), .val (.int i3), .val (.int (2 : Int32)), .val (.int (0 : Int32)), .val (.ref bo86), .val (.ref b87), .val (.int (1 : Int32)), .val (.int (0 : Int32))] [(.int (f11 (0 : Int32) (2 : Int32))), (.int (1 : Int32))])
      refine C91.iload at_47 rfl rfl ?_
      refine C91.iload at_49 rfl rfl ?_
      refine C91.icmp_ge at_51 (by decide) (by decide : _ = 58) rfl (fun q => absurd (by decide) q) (fun _ => ?_)
      refine C91.iconst (1 : Int32) at_54 rfl rfl ?_
      refine C91.goto at_55 (by decide) (by decide : _ = 59) ?_
      refine C91.icmp_ne at_59 (by decide) (by decide : _ = 66) rfl (fun q => absurd (by decide) q) (fun _ => ?_)
      refine C91.iconst (1 : Int32) at_62 rfl rfl ?_
      refine C91.goto at_63 (by decide) (by decide : _ = 67) ?_
      refine C91.iand at_67 rfl ?_
      rw [own_and11]
      refine C91.istore at_68 rfl (L' := #[.val (.int i0), .val (.int i1), .val (.int i2), .val (.int i3), .val (.int (2 : Int32)), .val (.int (0 : Int32)), .val (.ref bo86), .val (.ref b87), .val (.int (1 : Int32)), .val (.int (0 : Int32))]) rfl ?_
      refine C91.iload at_70 rfl rfl ?_
      refine C91.iconst (1 : Int32) at_72 rfl rfl ?_
      refine C91.icmp_lt at_73 (by decide) (by decide : _ = 91) rfl (fun _ => ?_) (fun q => absurd (by decide) q)
      refine C91.iload at_91 rfl rfl ?_
      refine C91.aload at_93 rfl rfl rfl ?_
      refine C91.callV (hw _ (List.mem_of_getElem? (i := 86) rfl)) (hw _ (List.mem_of_getElem? (i := 87) rfl)) (hw _ (List.mem_of_getElem? (i := 89) rfl)) (hw _ (List.mem_of_getElem? (i := 88) rfl)) (hw _ (List.mem_of_getElem? (i := 34) rfl)) (hw _ (List.mem_of_getElem? (i := 90) rfl)) E_b87 (by decide) (a := b87) (rm11 l Z a0 hw b87 bc90 (0 : Int32) ko86 (2 : Int32) vs86 .null h90 n0 C91.size F_b87_arguments F_b87_next V_bc90) (argsL := []) pd11 rfl 1 (by decide) (by decide) (by decide) (by decide) (rest := [(.int (1 : Int32))]) rfl rfl (Nat.le_of_eq rfl) at_95 rfl (fun v92 T92 h92 C92 qq92 => ?_)
      obtain ⟨rfl, hh92⟩ := qq92
      have hh92 := hh92.symm; subst hh92
      show Go p e below F n0 (fun v _ => v = some (.int (1 : Int32))) T92 (mkF m 98 #[.val (.int i0), .val (.int i1), .val (.int i2), .val (.int i3), .val (.int (2 : Int32)), .val (.int (0 : Int32)), .val (.ref bo86), .val (.ref b87), .val (.int (1 : Int32)), .val (.int (0 : Int32))] [(.int (f11 (0 : Int32) (2 : Int32))), (.int (1 : Int32))])
      refine C92.iload at_98 rfl rfl ?_
      refine C92.iload at_100 rfl rfl ?_
      refine C92.icmp_ge at_102 (by decide) (by decide : _ = 109) rfl (fun q => absurd (by decide) q) (fun _ => ?_)
      refine C92.iconst (1 : Int32) at_105 rfl rfl ?_
      refine C92.goto at_106 (by decide) (by decide : _ = 110) ?_
      refine C92.icmp_ne at_110 (by decide) (by decide : _ = 117) rfl (fun q => absurd (by decide) q) (fun _ => ?_)
      refine C92.iconst (1 : Int32) at_113 rfl rfl ?_
      refine C92.goto at_114 (by decide) (by decide : _ = 118) ?_
      refine C92.iand at_118 rfl ?_
      rw [own_and11]
      refine C92.istore at_119 rfl (L' := #[.val (.int i0), .val (.int i1), .val (.int i2), .val (.int i3), .val (.int (2 : Int32)), .val (.int (0 : Int32)), .val (.ref bo86), .val (.ref b87), .val (.int (1 : Int32)), .val (.int (0 : Int32))]) rfl ?_
      refine C92.iload at_121 rfl rfl ?_
      refine C92.aload at_123 rfl rfl rfl ?_
      refine C92.callV (hw _ (List.mem_of_getElem? (i := 86) rfl)) (hw _ (List.mem_of_getElem? (i := 87) rfl)) (hw _ (List.mem_of_getElem? (i := 89) rfl)) (hw _ (List.mem_of_getElem? (i := 88) rfl)) (hw _ (List.mem_of_getElem? (i := 34) rfl)) (hw _ (List.mem_of_getElem? (i := 90) rfl)) E_b87 (by decide) (a := b87) (rm11 l Z a0 hw b87 bc90 (0 : Int32) ko86 (2 : Int32) vs86 .null h90 n0 C92.size F_b87_arguments F_b87_next V_bc90) (argsL := []) pd11 rfl 1 (by decide) (by decide) (by decide) (by decide) (rest := [(.int (1 : Int32))]) rfl rfl (Nat.le_of_eq rfl) at_125 rfl (fun v93 T93 h93 C93 qq93 => ?_)
      obtain ⟨rfl, hh93⟩ := qq93
      have hh93 := hh93.symm; subst hh93
      show Go p e below F n0 (fun v _ => v = some (.int (1 : Int32))) T93 (mkF m 128 #[.val (.int i0), .val (.int i1), .val (.int i2), .val (.int i3), .val (.int (2 : Int32)), .val (.int (0 : Int32)), .val (.ref bo86), .val (.ref b87), .val (.int (1 : Int32)), .val (.int (0 : Int32))] [(.int (f11 (0 : Int32) (2 : Int32))), (.int (1 : Int32))])
      refine C93.iload at_128 rfl rfl ?_
      refine C93.iload at_130 rfl rfl ?_
      refine C93.icmp_ge at_132 (by decide) (by decide : _ = 139) rfl (fun q => absurd (by decide) q) (fun _ => ?_)
      refine C93.iconst (1 : Int32) at_135 rfl rfl ?_
      refine C93.goto at_136 (by decide) (by decide : _ = 140) ?_
      refine C93.icmp_ne at_140 (by decide) (by decide : _ = 147) rfl (fun q => absurd (by decide) q) (fun _ => ?_)
      refine C93.iconst (1 : Int32) at_143 rfl rfl ?_
      refine C93.goto at_144 (by decide) (by decide : _ = 148) ?_
      refine C93.iand at_148 rfl ?_
      rw [own_and11]
      refine C93.istore at_149 rfl (L' := #[.val (.int i0), .val (.int i1), .val (.int i2), .val (.int i3), .val (.int (2 : Int32)), .val (.int (0 : Int32)), .val (.ref bo86), .val (.ref b87), .val (.int (1 : Int32)), .val (.int (0 : Int32))]) rfl ?_
      refine C93.iload at_151 rfl rfl ?_
      refine C93.iconst (2 : Int32) at_153 rfl rfl ?_
      refine C93.icmp_lt at_154 (by decide) (by decide : _ = 172) rfl (fun _ => ?_) (fun q => absurd (by decide) q)
      refine C93.iload at_172 rfl rfl ?_
      refine C93.aload at_174 rfl rfl rfl ?_
      refine C93.callV (hw _ (List.mem_of_getElem? (i := 86) rfl)) (hw _ (List.mem_of_getElem? (i := 87) rfl)) (hw _ (List.mem_of_getElem? (i := 89) rfl)) (hw _ (List.mem_of_getElem? (i := 88) rfl)) (hw _ (List.mem_of_getElem? (i := 34) rfl)) (hw _ (List.mem_of_getElem? (i := 90) rfl)) E_b87 (by decide) (a := b87) (rm11 l Z a0 hw b87 bc90 (0 : Int32) ko86 (2 : Int32) vs86 .null h90 n0 C93.size F_b87_arguments F_b87_next V_bc90) (argsL := []) pd11 rfl 1 (by decide) (by decide) (by decide) (by decide) (rest := [(.int (1 : Int32))]) rfl rfl (Nat.le_of_eq rfl) at_176 rfl (fun v94 T94 h94 C94 qq94 => ?_)
      obtain ⟨rfl, hh94⟩ := qq94
      have hh94 := hh94.symm; subst hh94
      show Go p e below F n0 (fun v _ => v = some (.int (1 : Int32))) T94 (mkF m 179 #[.val (.int i0), .val (.int i1), .val (.int i2), .val (.int i3), .val (.int (2 : Int32)), .val (.int (0 : Int32)), .val (.ref bo86), .val (.ref b87), .val (.int (1 : Int32)), .val (.int (0 : Int32))] [(.int (f11 (0 : Int32) (2 : Int32))), (.int (1 : Int32))])
      refine C94.iload at_179 rfl rfl ?_
      refine C94.iload at_181 rfl rfl ?_
      refine C94.icmp_ge at_183 (by decide) (by decide : _ = 190) rfl (fun q => absurd (by decide) q) (fun _ => ?_)
      refine C94.iconst (1 : Int32) at_186 rfl rfl ?_
      refine C94.goto at_187 (by decide) (by decide : _ = 191) ?_
      refine C94.icmp_ne at_191 (by decide) (by decide : _ = 198) rfl (fun q => absurd (by decide) q) (fun _ => ?_)
      refine C94.iconst (1 : Int32) at_194 rfl rfl ?_
      refine C94.goto at_195 (by decide) (by decide : _ = 199) ?_
      refine C94.iand at_199 rfl ?_
      rw [own_and11]
      refine C94.istore at_200 rfl (L' := #[.val (.int i0), .val (.int i1), .val (.int i2), .val (.int i3), .val (.int (2 : Int32)), .val (.int (0 : Int32)), .val (.ref bo86), .val (.ref b87), .val (.int (1 : Int32)), .val (.int (0 : Int32))]) rfl ?_
      refine C94.iload at_202 rfl rfl ?_
      refine C94.iconst (3 : Int32) at_204 rfl rfl ?_
      refine C94.icmp_lt at_205 (by decide) (by decide : _ = 223) rfl (fun _ => ?_) (fun q => absurd (by decide) q)
      refine C94.iload at_223 rfl rfl ?_
      refine C94.aload at_225 rfl rfl rfl ?_
      refine C94.callV (hw _ (List.mem_of_getElem? (i := 86) rfl)) (hw _ (List.mem_of_getElem? (i := 87) rfl)) (hw _ (List.mem_of_getElem? (i := 89) rfl)) (hw _ (List.mem_of_getElem? (i := 88) rfl)) (hw _ (List.mem_of_getElem? (i := 34) rfl)) (hw _ (List.mem_of_getElem? (i := 90) rfl)) E_b87 (by decide) (a := b87) (rm11 l Z a0 hw b87 bc90 (0 : Int32) ko86 (2 : Int32) vs86 .null h90 n0 C94.size F_b87_arguments F_b87_next V_bc90) (argsL := []) pd11 rfl 1 (by decide) (by decide) (by decide) (by decide) (rest := [(.int (1 : Int32))]) rfl rfl (Nat.le_of_eq rfl) at_227 rfl (fun v95 T95 h95 C95 qq95 => ?_)
      obtain ⟨rfl, hh95⟩ := qq95
      have hh95 := hh95.symm; subst hh95
      show Go p e below F n0 (fun v _ => v = some (.int (1 : Int32))) T95 (mkF m 230 #[.val (.int i0), .val (.int i1), .val (.int i2), .val (.int i3), .val (.int (2 : Int32)), .val (.int (0 : Int32)), .val (.ref bo86), .val (.ref b87), .val (.int (1 : Int32)), .val (.int (0 : Int32))] [(.int (f11 (0 : Int32) (2 : Int32))), (.int (1 : Int32))])
      refine C95.iload at_230 rfl rfl ?_
      refine C95.iload at_232 rfl rfl ?_
      refine C95.icmp_ge at_234 (by decide) (by decide : _ = 241) rfl (fun q => absurd (by decide) q) (fun _ => ?_)
      refine C95.iconst (1 : Int32) at_237 rfl rfl ?_
      refine C95.goto at_238 (by decide) (by decide : _ = 242) ?_
      refine C95.icmp_ne at_242 (by decide) (by decide : _ = 249) rfl (fun q => absurd (by decide) q) (fun _ => ?_)
      refine C95.iconst (1 : Int32) at_245 rfl rfl ?_
      refine C95.goto at_246 (by decide) (by decide : _ = 250) ?_
      refine C95.iand at_250 rfl ?_
      rw [own_and11]
      refine C95.istore at_251 rfl (L' := #[.val (.int i0), .val (.int i1), .val (.int i2), .val (.int i3), .val (.int (2 : Int32)), .val (.int (0 : Int32)), .val (.ref bo86), .val (.ref b87), .val (.int (1 : Int32)), .val (.int (0 : Int32))]) rfl ?_
      refine C95.iload at_253 rfl rfl ?_
      exact C95.retN (t := .boolean) at_255 rfl (by simp) (by decide) (by decide) (w := (1 : Int32)) rfl rfl
    · subst e
      refine C0.iload at_10 rfl rfl ?_
      refine C0.iloadN at_12 rfl rfl ?_
      refine C0.callS (hw _ (List.mem_of_getElem? (i := 0) rfl)) (hw _ (List.mem_of_getElem? (i := 1) rfl)) (hw _ (List.mem_of_getElem? (i := 2) rfl)) (hw _ (List.mem_of_getElem? (i := 3) rfl)) (by decide) (rm1 l Z a0 hw (2 : Int32) i2 cs h0 n0 C0.size S_COMPACT_STRINGS hcs (Or.inr (Or.inr (Or.inl rfl)))) (argsL := [(.int (2 : Int32)), (.int i2)]) pd1 rfl 0 (by decide) (by decide) (by decide) (by decide) (rest := []) rfl rfl (Nat.le_of_eq rfl) at_13 rfl (fun v96 T96 h96 C96 qq96 => ?_)
      obtain ⟨bo96, ko96, vs96, rfl, K96, p96_0, p96_1, p96_2, p96_3⟩ := qq96
      have K96 := ext_keep K96
      have S_COMPACT_STRINGS := S_COMPACT_STRINGS.ext K96
      have S_DEFAULTCAPACITY_EMPTY_ELEMENTDATA := S_DEFAULTCAPACITY_EMPTY_ELEMENTDATA.ext K96
      have E_bo96 := p96_0
      have V_bo96 := p96_1
      have hr := p96_2
      have g_bo96 := p96_3
      show Go p e below F n0 (fun v _ => v = some (.int (1 : Int32))) T96 (mkF m 16 #[.val (.int i0), .val (.int i1), .val (.int i2), .val (.int i3), .val (.int (2 : Int32)), .val (.int (1 : Int32)), .unset, .unset, .unset, .unset] [(.ref bo96)])
      refine C96.astore at_16 rfl rfl (L' := #[.val (.int i0), .val (.int i1), .val (.int i2), .val (.int i3), .val (.int (2 : Int32)), .val (.int (1 : Int32)), .val (.ref bo96), .unset, .unset, .unset]) rfl ?_
      refine C96.new (hw _ (List.mem_of_getElem? (i := 32) rfl)) (hw _ (List.mem_of_getElem? (i := 33) rfl)) (hw _ (List.mem_of_getElem? (i := 34) rfl)) at_18 rfl (by decide) (by decide) (fun T97 h97 b97 C97 e97 g_b97 E97 E_b97 D97 => ?_)
      have ne_bo96_b97 : bo96 ≠ b97 := Nat.ne_of_lt (Nat.lt_of_lt_of_eq E_bo96.lt e97.symm)
      have S_COMPACT_STRINGS := S_COMPACT_STRINGS.ext E97
      have S_DEFAULTCAPACITY_EMPTY_ELEMENTDATA := S_DEFAULTCAPACITY_EMPTY_ELEMENTDATA.ext E97
      have E_bo96 := E_bo96.ext E97
      have V_bo96 := V_bo96.ext E97
      have F_b97_operands : Fld Z h97 b97 "com/example/bouncer/bouncer/cli/Arguments" "operands" "Ljava/util/List;" .null := D97 (Or.inr (hw _ (List.mem_of_getElem? (i := 68) rfl))) (ty := (.object "java/util/List")) (by decide)
      have F_b97_command : Fld Z h97 b97 "com/example/bouncer/bouncer/cli/Arguments" "command" "Ljava/lang/String;" .null := D97 (Or.inr (hw _ (List.mem_of_getElem? (i := 70) rfl))) (ty := (.object "java/lang/String")) (by decide)
      have F_b97_usage : Fld Z h97 b97 "com/example/bouncer/bouncer/cli/Arguments" "usage" "Ljava/lang/String;" .null := D97 (Or.inr (hw _ (List.mem_of_getElem? (i := 72) rfl))) (ty := (.object "java/lang/String")) (by decide)
      have F_b97_arguments : Fld Z h97 b97 "com/example/bouncer/bouncer/cli/Arguments" "arguments" "[Ljava/lang/String;" .null := D97 (Or.inr (hw _ (List.mem_of_getElem? (i := 83) rfl))) (ty := (.array (.object "java/lang/String"))) (by decide)
      have F_b97_maxOperands : Fld Z h97 b97 "com/example/bouncer/bouncer/cli/Arguments" "maxOperands" "I" (.int (0 : Int32)) := D97 (Or.inr (hw _ (List.mem_of_getElem? (i := 85) rfl))) (ty := .int) (by decide)
      have F_b97_next : Fld Z h97 b97 "com/example/bouncer/bouncer/cli/Arguments" "next" "I" (.int (0 : Int32)) := D97 (Or.inl (hw _ (List.mem_of_getElem? (i := 92) rfl))) (ty := .int) (by decide)
      refine C97.dup at_21 rfl rfl ?_
      refine C97.ldcStr (hw _ (List.mem_of_getElem? (i := 35) rfl)) (own_wS hw) 4 (by decide) (by decide) (by decide) (by decide) at_22 rfl (fun s98 T98 h98 C98 E98 => ?_)
      have S_COMPACT_STRINGS := S_COMPACT_STRINGS.ext E98
      have S_DEFAULTCAPACITY_EMPTY_ELEMENTDATA := S_DEFAULTCAPACITY_EMPTY_ELEMENTDATA.ext E98
      have E_bo96 := E_bo96.ext E98
      have V_bo96 := V_bo96.ext E98
      have E_b97 := E_b97.ext E98
      have F_b97_operands := F_b97_operands.ext E98
      have F_b97_command := F_b97_command.ext E98
      have F_b97_usage := F_b97_usage.ext E98
      have F_b97_arguments := F_b97_arguments.ext E98
      have F_b97_maxOperands := F_b97_maxOperands.ext E98
      have F_b97_next := F_b97_next.ext E98
      refine C98.ldcStr (hw _ (List.mem_of_getElem? (i := 38) rfl)) (own_wS hw) 4 (by decide) (by decide) (by decide) (by decide) at_24 rfl (fun s99 T99 h99 C99 E99 => ?_)
      have S_COMPACT_STRINGS := S_COMPACT_STRINGS.ext E99
      have S_DEFAULTCAPACITY_EMPTY_ELEMENTDATA := S_DEFAULTCAPACITY_EMPTY_ELEMENTDATA.ext E99
      have E_bo96 := E_bo96.ext E99
      have V_bo96 := V_bo96.ext E99
      have E_b97 := E_b97.ext E99
      have F_b97_operands := F_b97_operands.ext E99
      have F_b97_command := F_b97_command.ext E99
      have F_b97_usage := F_b97_usage.ext E99
      have F_b97_arguments := F_b97_arguments.ext E99
      have F_b97_maxOperands := F_b97_maxOperands.ext E99
      have F_b97_next := F_b97_next.ext E99
      refine C99.aload at_26 rfl rfl rfl ?_
      refine C99.iloadN at_28 rfl rfl ?_
      refine C99.callN rfl (hw _ (List.mem_of_getElem? (i := 39) rfl)) (hw _ (List.mem_of_getElem? (i := 40) rfl)) (hw _ (List.mem_of_getElem? (i := 34) rfl)) (hw _ (List.mem_of_getElem? (i := 41) rfl)) (by decide) (a := b97) (rm7 l Z a0 hw b97 s98 s99 bo96 i3 de .null .null .null .null (.int (0 : Int32)) ko96 (2 : Int32) vs96 .null h99 n0 C99.size E_b97 F_b97_operands F_b97_command F_b97_usage F_b97_arguments F_b97_maxOperands F_b97_next g_b97 S_DEFAULTCAPACITY_EMPTY_ELEMENTDATA E_bo96 V_bo96 (by decide)) (argsL := [(.ref s98), (.ref s99), (.ref bo96), (.int i3)]) pd7 rfl 1 (by decide) (by decide) (by decide) (by decide) (rest := [(.ref b97)]) rfl rfl (Nat.le_of_eq rfl) at_29 rfl (fun v100 T100 h100 C100 qq100 => ?_)
      obtain ⟨bc100, rfl, K100, p100_0, p100_1, p100_2, p100_3, p100_4, p100_5⟩ := qq100
      have S_COMPACT_STRINGS := own_stak S_COMPACT_STRINGS K100 (allS (own_plainE E_b97) (all0))
      have S_DEFAULTCAPACITY_EMPTY_ELEMENTDATA := own_stak S_DEFAULTCAPACITY_EMPTY_ELEMENTDATA K100 (allS (own_plainE E_b97) (all0))
      have E_bo96 := E_bo96.keep K100
      have V_bo96 := V_bo96.keep K100 (ninS ne_bo96_b97 nin0)
      have E_b97 := E_b97.keep K100
      have E_b97 := p100_0
      have F_b97_arguments := p100_1
      have F_b97_next := p100_2
      have E_bc100 := p100_3
      have V_bc100 := p100_4
      have g_bc100 := p100_5
      show Go p e below F n0 (fun v _ => v = some (.int (1 : Int32))) T100 (mkF m 32 #[.val (.int i0), .val (.int i1), .val (.int i2), .val (.int i3), .val (.int (2 : Int32)), .val (.int (1 : Int32)), .val (.ref bo96), .unset, .unset, .unset] [(.ref b97)])
      refine C100.astore at_32 rfl rfl (L' := #[.val (.int i0), .val (.int i1), .val (.int i2), .val (.int i3), .val (.int (2 : Int32)), .val (.int (1 : Int32)), .val (.ref bo96), .val (.ref b97), .unset, .unset]) rfl ?_
      refine C100.iconst (1 : Int32) at_34 rfl rfl ?_
      refine C100.istore at_35 rfl (L' := #[.val (.int i0), .val (.int i1), .val (.int i2), .val (.int i3), .val (.int (2 : Int32)), .val (.int (1 : Int32)), .val (.ref bo96), .val (.ref b97), .val (.int (1 : Int32)), .unset]) rfl ?_
      refine C100.iconst (0 : Int32) at_37 rfl rfl ?_
      refine C100.istore at_38 rfl (L' := #[.val (.int i0), .val (.int i1), .val (.int i2), .val (.int i3), .val (.int (2 : Int32)), .val (.int (1 : Int32)), .val (.ref bo96), .val (.ref b97), .val (.int (1 : Int32)), .val (.int (0 : Int32))]) rfl ?_
      refine C100.iload at_40 rfl rfl ?_
      refine C100.aload at_42 rfl rfl rfl ?_
      refine C100.callV (hw _ (List.mem_of_getElem? (i := 86) rfl)) (hw _ (List.mem_of_getElem? (i := 87) rfl)) (hw _ (List.mem_of_getElem? (i := 89) rfl)) (hw _ (List.mem_of_getElem? (i := 88) rfl)) (hw _ (List.mem_of_getElem? (i := 34) rfl)) (hw _ (List.mem_of_getElem? (i := 90) rfl)) E_b97 (by decide) (a := b97) (rm11 l Z a0 hw b97 bc100 (0 : Int32) ko96 (2 : Int32) vs96 .null h100 n0 C100.size F_b97_arguments F_b97_next V_bc100) (argsL := []) pd11 rfl 1 (by decide) (by decide) (by decide) (by decide) (rest := [(.int (1 : Int32))]) rfl rfl (Nat.le_of_eq rfl) at_44 rfl (fun v101 T101 h101 C101 qq101 => ?_)
      obtain ⟨rfl, hh101⟩ := qq101
      have hh101 := hh101.symm; subst hh101
      show Go p e below F n0 (fun v _ => v = some (.int (1 : Int32))) T101 (mkF m 47 #[.val (.int i0), .val (.int i1), .val (.int i2), .val (.int i3), .val (.int (2 : Int32)), .val (.int (1 : Int32)), .val (.ref bo96), .val (.ref b97), .val (.int (1 : Int32)), .val (.int (0 : Int32))] [(.int (f11 (0 : Int32) (2 : Int32))), (.int (1 : Int32))])
      refine C101.iload at_47 rfl rfl ?_
      refine C101.iload at_49 rfl rfl ?_
      refine C101.icmp_ge at_51 (by decide) (by decide : _ = 58) rfl (fun q => absurd (by decide) q) (fun _ => ?_)
      refine C101.iconst (1 : Int32) at_54 rfl rfl ?_
      refine C101.goto at_55 (by decide) (by decide : _ = 59) ?_
      refine C101.icmp_ne at_59 (by decide) (by decide : _ = 66) rfl (fun q => absurd (by decide) q) (fun _ => ?_)
      refine C101.iconst (1 : Int32) at_62 rfl rfl ?_
      refine C101.goto at_63 (by decide) (by decide : _ = 67) ?_
      refine C101.iand at_67 rfl ?_
      rw [own_and11]
      refine C101.istore at_68 rfl (L' := #[.val (.int i0), .val (.int i1), .val (.int i2), .val (.int i3), .val (.int (2 : Int32)), .val (.int (1 : Int32)), .val (.ref bo96), .val (.ref b97), .val (.int (1 : Int32)), .val (.int (0 : Int32))]) rfl ?_
      refine C101.iload at_70 rfl rfl ?_
      refine C101.iconst (1 : Int32) at_72 rfl rfl ?_
      refine C101.icmp_lt at_73 (by decide) (by decide : _ = 91) rfl (fun q => absurd q (by decide)) (fun _ => ?_)
      refine C101.iconst (0 : Int32) at_76 rfl rfl ?_
      refine C101.iload at_77 rfl rfl ?_
      refine C101.icmp_ge at_79 (by decide) (by decide : _ = 91) rfl (fun q => absurd (by decide) q) (fun _ => ?_)
      refine C101.aload at_82 rfl rfl rfl ?_
      refine C101.callV (hw _ (List.mem_of_getElem? (i := 93) rfl)) (hw _ (List.mem_of_getElem? (i := 94) rfl)) (hw _ (List.mem_of_getElem? (i := 96) rfl)) (hw _ (List.mem_of_getElem? (i := 95) rfl)) (hw _ (List.mem_of_getElem? (i := 34) rfl)) (hw _ (List.mem_of_getElem? (i := 97) rfl)) E_b97 (by decide) (a := b97) (rm12 l Z a0 hw b97 bc100 (0 : Int32) ko96 (2 : Int32) vs96 .null h100 n0 C101.size E_b97 F_b97_arguments F_b97_next V_bc100 E_bc100 g_b97 ⟨by decide, by decide⟩ hr) (argsL := []) pd12 rfl 0 (by decide) (by decide) (by decide) (by decide) (rest := []) rfl rfl (Nat.le_of_eq rfl) at_84 rfl (fun v102 T102 h102 C102 qq102 => ?_)
      obtain ⟨rfl, K102, p102_0, p102_1, p102_2⟩ := qq102
      have ne_bc100_b97 : bc100 ≠ b97 := (ne_exa E_bc100 E_b97 (by decide))
      have S_COMPACT_STRINGS := own_stak S_COMPACT_STRINGS K102 (allS (own_plainE E_b97) (all0))
      have S_DEFAULTCAPACITY_EMPTY_ELEMENTDATA := own_stak S_DEFAULTCAPACITY_EMPTY_ELEMENTDATA K102 (allS (own_plainE E_b97) (all0))
      have E_bo96 := E_bo96.keep K102
      have V_bo96 := V_bo96.keep K102 (ninS ne_bo96_b97 nin0)
      have E_b97 := E_b97.keep K102
      have E_bc100 := E_bc100.keep K102
      have V_bc100 := V_bc100.keep K102 (ninS ne_bc100_b97 nin0)
      have E_b97 := p102_0
      have F_b97_arguments := p102_1
      have F_b97_next := p102_2
      show Go p e below F n0 (fun v _ => v = some (.int (1 : Int32))) T102 (mkF m 87 #[.val (.int i0), .val (.int i1), .val (.int i2), .val (.int i3), .val (.int (2 : Int32)), .val (.int (1 : Int32)), .val (.ref bo96), .val (.ref b97), .val (.int (1 : Int32)), .val (.int (0 : Int32))] [(vs96.getD ((0 : Int32)).toNatClampNeg .null)])
      refine C102.pop at_87 rfl (XT.cat1 (hr _)) ?_
      refine C102.iconst (1 : Int32) at_88 rfl rfl ?_
      refine C102.istore at_89 rfl (L' := #[.val (.int i0), .val (.int i1), .val (.int i2), .val (.int i3), .val (.int (2 : Int32)), .val (.int (1 : Int32)), .val (.ref bo96), .val (.ref b97), .val (.int (1 : Int32)), .val (.int (1 : Int32))]) rfl ?_
      refine C102.iload at_91 rfl rfl ?_
      refine C102.aload at_93 rfl rfl rfl ?_
      refine C102.callV (hw _ (List.mem_of_getElem? (i := 86) rfl)) (hw _ (List.mem_of_getElem? (i := 87) rfl)) (hw _ (List.mem_of_getElem? (i := 89) rfl)) (hw _ (List.mem_of_getElem? (i := 88) rfl)) (hw _ (List.mem_of_getElem? (i := 34) rfl)) (hw _ (List.mem_of_getElem? (i := 90) rfl)) E_b97 (by decide) (a := b97) (rm11 l Z a0 hw b97 bc100 ((0 : Int32) + (1 : Int32)) ko96 (2 : Int32) vs96 .null h102 n0 C102.size F_b97_arguments F_b97_next V_bc100) (argsL := []) pd11 rfl 1 (by decide) (by decide) (by decide) (by decide) (rest := [(.int (1 : Int32))]) rfl rfl (Nat.le_of_eq rfl) at_95 rfl (fun v103 T103 h103 C103 qq103 => ?_)
      obtain ⟨rfl, hh103⟩ := qq103
      have hh103 := hh103.symm; subst hh103
      show Go p e below F n0 (fun v _ => v = some (.int (1 : Int32))) T103 (mkF m 98 #[.val (.int i0), .val (.int i1), .val (.int i2), .val (.int i3), .val (.int (2 : Int32)), .val (.int (1 : Int32)), .val (.ref bo96), .val (.ref b97), .val (.int (1 : Int32)), .val (.int (1 : Int32))] [(.int (f11 ((0 : Int32) + (1 : Int32)) (2 : Int32))), (.int (1 : Int32))])
      refine C103.iload at_98 rfl rfl ?_
      refine C103.iload at_100 rfl rfl ?_
      refine C103.icmp_ge at_102 (by decide) (by decide : _ = 109) rfl (fun q => absurd (by decide) q) (fun _ => ?_)
      refine C103.iconst (1 : Int32) at_105 rfl rfl ?_
      refine C103.goto at_106 (by decide) (by decide : _ = 110) ?_
      refine C103.icmp_ne at_110 (by decide) (by decide : _ = 117) rfl (fun q => absurd (by decide) q) (fun _ => ?_)
      refine C103.iconst (1 : Int32) at_113 rfl rfl ?_
      refine C103.goto at_114 (by decide) (by decide : _ = 118) ?_
      refine C103.iand at_118 rfl ?_
      rw [own_and11]
      refine C103.istore at_119 rfl (L' := #[.val (.int i0), .val (.int i1), .val (.int i2), .val (.int i3), .val (.int (2 : Int32)), .val (.int (1 : Int32)), .val (.ref bo96), .val (.ref b97), .val (.int (1 : Int32)), .val (.int (1 : Int32))]) rfl ?_
      refine C103.iload at_121 rfl rfl ?_
      refine C103.aload at_123 rfl rfl rfl ?_
      refine C103.callV (hw _ (List.mem_of_getElem? (i := 86) rfl)) (hw _ (List.mem_of_getElem? (i := 87) rfl)) (hw _ (List.mem_of_getElem? (i := 89) rfl)) (hw _ (List.mem_of_getElem? (i := 88) rfl)) (hw _ (List.mem_of_getElem? (i := 34) rfl)) (hw _ (List.mem_of_getElem? (i := 90) rfl)) E_b97 (by decide) (a := b97) (rm11 l Z a0 hw b97 bc100 ((0 : Int32) + (1 : Int32)) ko96 (2 : Int32) vs96 .null h102 n0 C103.size F_b97_arguments F_b97_next V_bc100) (argsL := []) pd11 rfl 1 (by decide) (by decide) (by decide) (by decide) (rest := [(.int (1 : Int32))]) rfl rfl (Nat.le_of_eq rfl) at_125 rfl (fun v104 T104 h104 C104 qq104 => ?_)
      obtain ⟨rfl, hh104⟩ := qq104
      have hh104 := hh104.symm; subst hh104
      show Go p e below F n0 (fun v _ => v = some (.int (1 : Int32))) T104 (mkF m 128 #[.val (.int i0), .val (.int i1), .val (.int i2), .val (.int i3), .val (.int (2 : Int32)), .val (.int (1 : Int32)), .val (.ref bo96), .val (.ref b97), .val (.int (1 : Int32)), .val (.int (1 : Int32))] [(.int (f11 ((0 : Int32) + (1 : Int32)) (2 : Int32))), (.int (1 : Int32))])
      refine C104.iload at_128 rfl rfl ?_
      refine C104.iload at_130 rfl rfl ?_
      refine C104.icmp_ge at_132 (by decide) (by decide : _ = 139) rfl (fun q => absurd (by decide) q) (fun _ => ?_)
      refine C104.iconst (1 : Int32) at_135 rfl rfl ?_
      refine C104.goto at_136 (by decide) (by decide : _ = 140) ?_
      refine C104.icmp_ne at_140 (by decide) (by decide : _ = 147) rfl (fun q => absurd (by decide) q) (fun _ => ?_)
      refine C104.iconst (1 : Int32) at_143 rfl rfl ?_
      refine C104.goto at_144 (by decide) (by decide : _ = 148) ?_
      refine C104.iand at_148 rfl ?_
      rw [own_and11]
      refine C104.istore at_149 rfl (L' := #[.val (.int i0), .val (.int i1), .val (.int i2), .val (.int i3), .val (.int (2 : Int32)), .val (.int (1 : Int32)), .val (.ref bo96), .val (.ref b97), .val (.int (1 : Int32)), .val (.int (1 : Int32))]) rfl ?_
      refine C104.iload at_151 rfl rfl ?_
      refine C104.iconst (2 : Int32) at_153 rfl rfl ?_
      refine C104.icmp_lt at_154 (by decide) (by decide : _ = 172) rfl (fun _ => ?_) (fun q => absurd (by decide) q)
      refine C104.iload at_172 rfl rfl ?_
      refine C104.aload at_174 rfl rfl rfl ?_
      refine C104.callV (hw _ (List.mem_of_getElem? (i := 86) rfl)) (hw _ (List.mem_of_getElem? (i := 87) rfl)) (hw _ (List.mem_of_getElem? (i := 89) rfl)) (hw _ (List.mem_of_getElem? (i := 88) rfl)) (hw _ (List.mem_of_getElem? (i := 34) rfl)) (hw _ (List.mem_of_getElem? (i := 90) rfl)) E_b97 (by decide) (a := b97) (rm11 l Z a0 hw b97 bc100 ((0 : Int32) + (1 : Int32)) ko96 (2 : Int32) vs96 .null h102 n0 C104.size F_b97_arguments F_b97_next V_bc100) (argsL := []) pd11 rfl 1 (by decide) (by decide) (by decide) (by decide) (rest := [(.int (1 : Int32))]) rfl rfl (Nat.le_of_eq rfl) at_176 rfl (fun v105 T105 h105 C105 qq105 => ?_)
      obtain ⟨rfl, hh105⟩ := qq105
      have hh105 := hh105.symm; subst hh105
      show Go p e below F n0 (fun v _ => v = some (.int (1 : Int32))) T105 (mkF m 179 #[.val (.int i0), .val (.int i1), .val (.int i2), .val (.int i3), .val (.int (2 : Int32)), .val (.int (1 : Int32)), .val (.ref bo96), .val (.ref b97), .val (.int (1 : Int32)), .val (.int (1 : Int32))] [(.int (f11 ((0 : Int32) + (1 : Int32)) (2 : Int32))), (.int (1 : Int32))])
      refine C105.iload at_179 rfl rfl ?_
      refine C105.iload at_181 rfl rfl ?_
      refine C105.icmp_ge at_183 (by decide) (by decide : _ = 190) rfl (fun q => absurd (by decide) q) (fun _ => ?_)
      refine C105.iconst (1 : Int32) at_186 rfl rfl ?_
      refine C105.goto at_187 (by decide) (by decide : _ = 191) ?_
      refine C105.icmp_ne at_191 (by decide) (by decide : _ = 198) rfl (fun q => absurd (by decide) q) (fun _ => ?_)
      refine C105.iconst (1 : Int32) at_194 rfl rfl ?_
      refine C105.goto at_195 (by decide) (by decide : _ = 199) ?_
      refine C105.iand at_199 rfl ?_
      rw [own_and11]
      refine C105.istore at_200 rfl (L' := #[.val (.int i0), .val (.int i1), .val (.int i2), .val (.int i3), .val (.int (2 : Int32)), .val (.int (1 : Int32)), .val (.ref bo96), .val (.ref b97), .val (.int (1 : Int32)), .val (.int (1 : Int32))]) rfl ?_
      refine C105.iload at_202 rfl rfl ?_
      refine C105.iconst (3 : Int32) at_204 rfl rfl ?_
      refine C105.icmp_lt at_205 (by decide) (by decide : _ = 223) rfl (fun _ => ?_) (fun q => absurd (by decide) q)
      refine C105.iload at_223 rfl rfl ?_
      refine C105.aload at_225 rfl rfl rfl ?_
      refine C105.callV (hw _ (List.mem_of_getElem? (i := 86) rfl)) (hw _ (List.mem_of_getElem? (i := 87) rfl)) (hw _ (List.mem_of_getElem? (i := 89) rfl)) (hw _ (List.mem_of_getElem? (i := 88) rfl)) (hw _ (List.mem_of_getElem? (i := 34) rfl)) (hw _ (List.mem_of_getElem? (i := 90) rfl)) E_b97 (by decide) (a := b97) (rm11 l Z a0 hw b97 bc100 ((0 : Int32) + (1 : Int32)) ko96 (2 : Int32) vs96 .null h102 n0 C105.size F_b97_arguments F_b97_next V_bc100) (argsL := []) pd11 rfl 1 (by decide) (by decide) (by decide) (by decide) (rest := [(.int (1 : Int32))]) rfl rfl (Nat.le_of_eq rfl) at_227 rfl (fun v106 T106 h106 C106 qq106 => ?_)
      obtain ⟨rfl, hh106⟩ := qq106
      have hh106 := hh106.symm; subst hh106
      show Go p e below F n0 (fun v _ => v = some (.int (1 : Int32))) T106 (mkF m 230 #[.val (.int i0), .val (.int i1), .val (.int i2), .val (.int i3), .val (.int (2 : Int32)), .val (.int (1 : Int32)), .val (.ref bo96), .val (.ref b97), .val (.int (1 : Int32)), .val (.int (1 : Int32))] [(.int (f11 ((0 : Int32) + (1 : Int32)) (2 : Int32))), (.int (1 : Int32))])
      refine C106.iload at_230 rfl rfl ?_
      refine C106.iload at_232 rfl rfl ?_
      refine C106.icmp_ge at_234 (by decide) (by decide : _ = 241) rfl (fun q => absurd (by decide) q) (fun _ => ?_)
      refine C106.iconst (1 : Int32) at_237 rfl rfl ?_
      refine C106.goto at_238 (by decide) (by decide : _ = 242) ?_
      refine C106.icmp_ne at_242 (by decide) (by decide : _ = 249) rfl (fun q => absurd (by decide) q) (fun _ => ?_)
      refine C106.iconst (1 : Int32) at_245 rfl rfl ?_
      refine C106.goto at_246 (by decide) (by decide : _ = 250) ?_
      refine C106.iand at_250 rfl ?_
      rw [own_and11]
      refine C106.istore at_251 rfl (L' := #[.val (.int i0), .val (.int i1), .val (.int i2), .val (.int i3), .val (.int (2 : Int32)), .val (.int (1 : Int32)), .val (.ref bo96), .val (.ref b97), .val (.int (1 : Int32)), .val (.int (1 : Int32))]) rfl ?_
      refine C106.iload at_253 rfl rfl ?_
      exact C106.retN (t := .boolean) at_255 rfl (by simp) (by decide) (by decide) (w := (1 : Int32)) rfl rfl
    · subst e
      refine C0.iload at_10 rfl rfl ?_
      refine C0.iloadN at_12 rfl rfl ?_
      refine C0.callS (hw _ (List.mem_of_getElem? (i := 0) rfl)) (hw _ (List.mem_of_getElem? (i := 1) rfl)) (hw _ (List.mem_of_getElem? (i := 2) rfl)) (hw _ (List.mem_of_getElem? (i := 3) rfl)) (by decide) (rm1 l Z a0 hw (2 : Int32) i2 cs h0 n0 C0.size S_COMPACT_STRINGS hcs (Or.inr (Or.inr (Or.inl rfl)))) (argsL := [(.int (2 : Int32)), (.int i2)]) pd1 rfl 0 (by decide) (by decide) (by decide) (by decide) (rest := []) rfl rfl (Nat.le_of_eq rfl) at_13 rfl (fun v107 T107 h107 C107 qq107 => ?_)
      obtain ⟨bo107, ko107, vs107, rfl, K107, p107_0, p107_1, p107_2, p107_3⟩ := qq107
      have K107 := ext_keep K107
      have S_COMPACT_STRINGS := S_COMPACT_STRINGS.ext K107
      have S_DEFAULTCAPACITY_EMPTY_ELEMENTDATA := S_DEFAULTCAPACITY_EMPTY_ELEMENTDATA.ext K107
      have E_bo107 := p107_0
      have V_bo107 := p107_1
      have hr := p107_2
      have g_bo107 := p107_3
      show Go p e below F n0 (fun v _ => v = some (.int (1 : Int32))) T107 (mkF m 16 #[.val (.int i0), .val (.int i1), .val (.int i2), .val (.int i3), .val (.int (2 : Int32)), .val (.int (2 : Int32)), .unset, .unset, .unset, .unset] [(.ref bo107)])
      refine C107.astore at_16 rfl rfl (L' := #[.val (.int i0), .val (.int i1), .val (.int i2), .val (.int i3), .val (.int (2 : Int32)), .val (.int (2 : Int32)), .val (.ref bo107), .unset, .unset, .unset]) rfl ?_
      refine C107.new (hw _ (List.mem_of_getElem? (i := 32) rfl)) (hw _ (List.mem_of_getElem? (i := 33) rfl)) (hw _ (List.mem_of_getElem? (i := 34) rfl)) at_18 rfl (by decide) (by decide) (fun T108 h108 b108 C108 e108 g_b108 E108 E_b108 D108 => ?_)
      have ne_bo107_b108 : bo107 ≠ b108 := Nat.ne_of_lt (Nat.lt_of_lt_of_eq E_bo107.lt e108.symm)
      have S_COMPACT_STRINGS := S_COMPACT_STRINGS.ext E108
      have S_DEFAULTCAPACITY_EMPTY_ELEMENTDATA := S_DEFAULTCAPACITY_EMPTY_ELEMENTDATA.ext E108
      have E_bo107 := E_bo107.ext E108
      have V_bo107 := V_bo107.ext E108
      have F_b108_operands : Fld Z h108 b108 "com/example/bouncer/bouncer/cli/Arguments" "operands" "Ljava/util/List;" .null := D108 (Or.inr (hw _ (List.mem_of_getElem? (i := 68) rfl))) (ty := (.object "java/util/List")) (by decide)
      have F_b108_command : Fld Z h108 b108 "com/example/bouncer/bouncer/cli/Arguments" "command" "Ljava/lang/String;" .null := D108 (Or.inr (hw _ (List.mem_of_getElem? (i := 70) rfl))) (ty := (.object "java/lang/String")) (by decide)
      have F_b108_usage : Fld Z h108 b108 "com/example/bouncer/bouncer/cli/Arguments" "usage" "Ljava/lang/String;" .null := D108 (Or.inr (hw _ (List.mem_of_getElem? (i := 72) rfl))) (ty := (.object "java/lang/String")) (by decide)
      have F_b108_arguments : Fld Z h108 b108 "com/example/bouncer/bouncer/cli/Arguments" "arguments" "[Ljava/lang/String;" .null := D108 (Or.inr (hw _ (List.mem_of_getElem? (i := 83) rfl))) (ty := (.array (.object "java/lang/String"))) (by decide)
      have F_b108_maxOperands : Fld Z h108 b108 "com/example/bouncer/bouncer/cli/Arguments" "maxOperands" "I" (.int (0 : Int32)) := D108 (Or.inr (hw _ (List.mem_of_getElem? (i := 85) rfl))) (ty := .int) (by decide)
      have F_b108_next : Fld Z h108 b108 "com/example/bouncer/bouncer/cli/Arguments" "next" "I" (.int (0 : Int32)) := D108 (Or.inl (hw _ (List.mem_of_getElem? (i := 92) rfl))) (ty := .int) (by decide)
      refine C108.dup at_21 rfl rfl ?_
      refine C108.ldcStr (hw _ (List.mem_of_getElem? (i := 35) rfl)) (own_wS hw) 4 (by decide) (by decide) (by decide) (by decide) at_22 rfl (fun s109 T109 h109 C109 E109 => ?_)
      have S_COMPACT_STRINGS := S_COMPACT_STRINGS.ext E109
      have S_DEFAULTCAPACITY_EMPTY_ELEMENTDATA := S_DEFAULTCAPACITY_EMPTY_ELEMENTDATA.ext E109
      have E_bo107 := E_bo107.ext E109
      have V_bo107 := V_bo107.ext E109
      have E_b108 := E_b108.ext E109
      have F_b108_operands := F_b108_operands.ext E109
      have F_b108_command := F_b108_command.ext E109
      have F_b108_usage := F_b108_usage.ext E109
      have F_b108_arguments := F_b108_arguments.ext E109
      have F_b108_maxOperands := F_b108_maxOperands.ext E109
      have F_b108_next := F_b108_next.ext E109
      refine C109.ldcStr (hw _ (List.mem_of_getElem? (i := 38) rfl)) (own_wS hw) 4 (by decide) (by decide) (by decide) (by decide) at_24 rfl (fun s110 T110 h110 C110 E110 => ?_)
      have S_COMPACT_STRINGS := S_COMPACT_STRINGS.ext E110
      have S_DEFAULTCAPACITY_EMPTY_ELEMENTDATA := S_DEFAULTCAPACITY_EMPTY_ELEMENTDATA.ext E110
      have E_bo107 := E_bo107.ext E110
      have V_bo107 := V_bo107.ext E110
      have E_b108 := E_b108.ext E110
      have F_b108_operands := F_b108_operands.ext E110
      have F_b108_command := F_b108_command.ext E110
      have F_b108_usage := F_b108_usage.ext E110
      have F_b108_arguments := F_b108_arguments.ext E110
      have F_b108_maxOperands := F_b108_maxOperands.ext E110
      have F_b108_next := F_b108_next.ext E110
      refine C110.aload at_26 rfl rfl rfl ?_
      refine C110.iloadN at_28 rfl rfl ?_
      refine C110.callN rfl (hw _ (List.mem_of_getElem? (i := 39) rfl)) (hw _ (List.mem_of_getElem? (i := 40) rfl)) (hw _ (List.mem_of_getElem? (i := 34) rfl)) (hw _ (List.mem_of_getElem? (i := 41) rfl)) (by decide) (a := b108) (rm7 l Z a0 hw b108 s109 s110 bo107 i3 de .null .null .null .null (.int (0 : Int32)) ko107 (2 : Int32) vs107 .null h110 n0 C110.size E_b108 F_b108_operands F_b108_command F_b108_usage F_b108_arguments F_b108_maxOperands F_b108_next g_b108 S_DEFAULTCAPACITY_EMPTY_ELEMENTDATA E_bo107 V_bo107 (by decide)) (argsL := [(.ref s109), (.ref s110), (.ref bo107), (.int i3)]) pd7 rfl 1 (by decide) (by decide) (by decide) (by decide) (rest := [(.ref b108)]) rfl rfl (Nat.le_of_eq rfl) at_29 rfl (fun v111 T111 h111 C111 qq111 => ?_)
      obtain ⟨bc111, rfl, K111, p111_0, p111_1, p111_2, p111_3, p111_4, p111_5⟩ := qq111
      have S_COMPACT_STRINGS := own_stak S_COMPACT_STRINGS K111 (allS (own_plainE E_b108) (all0))
      have S_DEFAULTCAPACITY_EMPTY_ELEMENTDATA := own_stak S_DEFAULTCAPACITY_EMPTY_ELEMENTDATA K111 (allS (own_plainE E_b108) (all0))
      have E_bo107 := E_bo107.keep K111
      have V_bo107 := V_bo107.keep K111 (ninS ne_bo107_b108 nin0)
      have E_b108 := E_b108.keep K111
      have E_b108 := p111_0
      have F_b108_arguments := p111_1
      have F_b108_next := p111_2
      have E_bc111 := p111_3
      have V_bc111 := p111_4
      have g_bc111 := p111_5
      show Go p e below F n0 (fun v _ => v = some (.int (1 : Int32))) T111 (mkF m 32 #[.val (.int i0), .val (.int i1), .val (.int i2), .val (.int i3), .val (.int (2 : Int32)), .val (.int (2 : Int32)), .val (.ref bo107), .unset, .unset, .unset] [(.ref b108)])
      refine C111.astore at_32 rfl rfl (L' := #[.val (.int i0), .val (.int i1), .val (.int i2), .val (.int i3), .val (.int (2 : Int32)), .val (.int (2 : Int32)), .val (.ref bo107), .val (.ref b108), .unset, .unset]) rfl ?_
      refine C111.iconst (1 : Int32) at_34 rfl rfl ?_
      refine C111.istore at_35 rfl (L' := #[.val (.int i0), .val (.int i1), .val (.int i2), .val (.int i3), .val (.int (2 : Int32)), .val (.int (2 : Int32)), .val (.ref bo107), .val (.ref b108), .val (.int (1 : Int32)), .unset]) rfl ?_
      refine C111.iconst (0 : Int32) at_37 rfl rfl ?_
      refine C111.istore at_38 rfl (L' := #[.val (.int i0), .val (.int i1), .val (.int i2), .val (.int i3), .val (.int (2 : Int32)), .val (.int (2 : Int32)), .val (.ref bo107), .val (.ref b108), .val (.int (1 : Int32)), .val (.int (0 : Int32))]) rfl ?_
      refine C111.iload at_40 rfl rfl ?_
      refine C111.aload at_42 rfl rfl rfl ?_
      refine C111.callV (hw _ (List.mem_of_getElem? (i := 86) rfl)) (hw _ (List.mem_of_getElem? (i := 87) rfl)) (hw _ (List.mem_of_getElem? (i := 89) rfl)) (hw _ (List.mem_of_getElem? (i := 88) rfl)) (hw _ (List.mem_of_getElem? (i := 34) rfl)) (hw _ (List.mem_of_getElem? (i := 90) rfl)) E_b108 (by decide) (a := b108) (rm11 l Z a0 hw b108 bc111 (0 : Int32) ko107 (2 : Int32) vs107 .null h111 n0 C111.size F_b108_arguments F_b108_next V_bc111) (argsL := []) pd11 rfl 1 (by decide) (by decide) (by decide) (by decide) (rest := [(.int (1 : Int32))]) rfl rfl (Nat.le_of_eq rfl) at_44 rfl (fun v112 T112 h112 C112 qq112 => ?_)
      obtain ⟨rfl, hh112⟩ := qq112
      have hh112 := hh112.symm; subst hh112
      show Go p e below F n0 (fun v _ => v = some (.int (1 : Int32))) T112 (mkF m 47 #[.val (.int i0), .val (.int i1), .val (.int i2), .val (.int i3), .val (.int (2 : Int32)), .val (.int (2 : Int32)), .val (.ref bo107), .val (.ref b108), .val (.int (1 : Int32)), .val (.int (0 : Int32))] [(.int (f11 (0 : Int32) (2 : Int32))), (.int (1 : Int32))])
      refine C112.iload at_47 rfl rfl ?_
      refine C112.iload at_49 rfl rfl ?_
      refine C112.icmp_ge at_51 (by decide) (by decide : _ = 58) rfl (fun q => absurd (by decide) q) (fun _ => ?_)
      refine C112.iconst (1 : Int32) at_54 rfl rfl ?_
      refine C112.goto at_55 (by decide) (by decide : _ = 59) ?_
      refine C112.icmp_ne at_59 (by decide) (by decide : _ = 66) rfl (fun q => absurd (by decide) q) (fun _ => ?_)
      refine C112.iconst (1 : Int32) at_62 rfl rfl ?_
      refine C112.goto at_63 (by decide) (by decide : _ = 67) ?_
      refine C112.iand at_67 rfl ?_
      rw [own_and11]
      refine C112.istore at_68 rfl (L' := #[.val (.int i0), .val (.int i1), .val (.int i2), .val (.int i3), .val (.int (2 : Int32)), .val (.int (2 : Int32)), .val (.ref bo107), .val (.ref b108), .val (.int (1 : Int32)), .val (.int (0 : Int32))]) rfl ?_
      refine C112.iload at_70 rfl rfl ?_
      refine C112.iconst (1 : Int32) at_72 rfl rfl ?_
      refine C112.icmp_lt at_73 (by decide) (by decide : _ = 91) rfl (fun q => absurd q (by decide)) (fun _ => ?_)
      refine C112.iconst (0 : Int32) at_76 rfl rfl ?_
      refine C112.iload at_77 rfl rfl ?_
      refine C112.icmp_ge at_79 (by decide) (by decide : _ = 91) rfl (fun q => absurd (by decide) q) (fun _ => ?_)
      refine C112.aload at_82 rfl rfl rfl ?_
      refine C112.callV (hw _ (List.mem_of_getElem? (i := 93) rfl)) (hw _ (List.mem_of_getElem? (i := 94) rfl)) (hw _ (List.mem_of_getElem? (i := 96) rfl)) (hw _ (List.mem_of_getElem? (i := 95) rfl)) (hw _ (List.mem_of_getElem? (i := 34) rfl)) (hw _ (List.mem_of_getElem? (i := 97) rfl)) E_b108 (by decide) (a := b108) (rm12 l Z a0 hw b108 bc111 (0 : Int32) ko107 (2 : Int32) vs107 .null h111 n0 C112.size E_b108 F_b108_arguments F_b108_next V_bc111 E_bc111 g_b108 ⟨by decide, by decide⟩ hr) (argsL := []) pd12 rfl 0 (by decide) (by decide) (by decide) (by decide) (rest := []) rfl rfl (Nat.le_of_eq rfl) at_84 rfl (fun v113 T113 h113 C113 qq113 => ?_)
      obtain ⟨rfl, K113, p113_0, p113_1, p113_2⟩ := qq113
      have ne_bc111_b108 : bc111 ≠ b108 := (ne_exa E_bc111 E_b108 (by decide))
      have S_COMPACT_STRINGS := own_stak S_COMPACT_STRINGS K113 (allS (own_plainE E_b108) (all0))
      have S_DEFAULTCAPACITY_EMPTY_ELEMENTDATA := own_stak S_DEFAULTCAPACITY_EMPTY_ELEMENTDATA K113 (allS (own_plainE E_b108) (all0))
      have E_bo107 := E_bo107.keep K113
      have V_bo107 := V_bo107.keep K113 (ninS ne_bo107_b108 nin0)
      have E_b108 := E_b108.keep K113
      have E_bc111 := E_bc111.keep K113
      have V_bc111 := V_bc111.keep K113 (ninS ne_bc111_b108 nin0)
      have E_b108 := p113_0
      have F_b108_arguments := p113_1
      have F_b108_next := p113_2
      show Go p e below F n0 (fun v _ => v = some (.int (1 : Int32))) T113 (mkF m 87 #[.val (.int i0), .val (.int i1), .val (.int i2), .val (.int i3), .val (.int (2 : Int32)), .val (.int (2 : Int32)), .val (.ref bo107), .val (.ref b108), .val (.int (1 : Int32)), .val (.int (0 : Int32))] [(vs107.getD ((0 : Int32)).toNatClampNeg .null)])
      refine C113.pop at_87 rfl (XT.cat1 (hr _)) ?_
      refine C113.iconst (1 : Int32) at_88 rfl rfl ?_
      refine C113.istore at_89 rfl (L' := #[.val (.int i0), .val (.int i1), .val (.int i2), .val (.int i3), .val (.int (2 : Int32)), .val (.int (2 : Int32)), .val (.ref bo107), .val (.ref b108), .val (.int (1 : Int32)), .val (.int (1 : Int32))]) rfl ?_
      refine C113.iload at_91 rfl rfl ?_
      refine C113.aload at_93 rfl rfl rfl ?_
      refine C113.callV (hw _ (List.mem_of_getElem? (i := 86) rfl)) (hw _ (List.mem_of_getElem? (i := 87) rfl)) (hw _ (List.mem_of_getElem? (i := 89) rfl)) (hw _ (List.mem_of_getElem? (i := 88) rfl)) (hw _ (List.mem_of_getElem? (i := 34) rfl)) (hw _ (List.mem_of_getElem? (i := 90) rfl)) E_b108 (by decide) (a := b108) (rm11 l Z a0 hw b108 bc111 ((0 : Int32) + (1 : Int32)) ko107 (2 : Int32) vs107 .null h113 n0 C113.size F_b108_arguments F_b108_next V_bc111) (argsL := []) pd11 rfl 1 (by decide) (by decide) (by decide) (by decide) (rest := [(.int (1 : Int32))]) rfl rfl (Nat.le_of_eq rfl) at_95 rfl (fun v114 T114 h114 C114 qq114 => ?_)
      obtain ⟨rfl, hh114⟩ := qq114
      have hh114 := hh114.symm; subst hh114
      show Go p e below F n0 (fun v _ => v = some (.int (1 : Int32))) T114 (mkF m 98 #[.val (.int i0), .val (.int i1), .val (.int i2), .val (.int i3), .val (.int (2 : Int32)), .val (.int (2 : Int32)), .val (.ref bo107), .val (.ref b108), .val (.int (1 : Int32)), .val (.int (1 : Int32))] [(.int (f11 ((0 : Int32) + (1 : Int32)) (2 : Int32))), (.int (1 : Int32))])
      refine C114.iload at_98 rfl rfl ?_
      refine C114.iload at_100 rfl rfl ?_
      refine C114.icmp_ge at_102 (by decide) (by decide : _ = 109) rfl (fun q => absurd (by decide) q) (fun _ => ?_)
      refine C114.iconst (1 : Int32) at_105 rfl rfl ?_
      refine C114.goto at_106 (by decide) (by decide : _ = 110) ?_
      refine C114.icmp_ne at_110 (by decide) (by decide : _ = 117) rfl (fun q => absurd (by decide) q) (fun _ => ?_)
      refine C114.iconst (1 : Int32) at_113 rfl rfl ?_
      refine C114.goto at_114 (by decide) (by decide : _ = 118) ?_
      refine C114.iand at_118 rfl ?_
      rw [own_and11]
      refine C114.istore at_119 rfl (L' := #[.val (.int i0), .val (.int i1), .val (.int i2), .val (.int i3), .val (.int (2 : Int32)), .val (.int (2 : Int32)), .val (.ref bo107), .val (.ref b108), .val (.int (1 : Int32)), .val (.int (1 : Int32))]) rfl ?_
      refine C114.iload at_121 rfl rfl ?_
      refine C114.aload at_123 rfl rfl rfl ?_
      refine C114.callV (hw _ (List.mem_of_getElem? (i := 86) rfl)) (hw _ (List.mem_of_getElem? (i := 87) rfl)) (hw _ (List.mem_of_getElem? (i := 89) rfl)) (hw _ (List.mem_of_getElem? (i := 88) rfl)) (hw _ (List.mem_of_getElem? (i := 34) rfl)) (hw _ (List.mem_of_getElem? (i := 90) rfl)) E_b108 (by decide) (a := b108) (rm11 l Z a0 hw b108 bc111 ((0 : Int32) + (1 : Int32)) ko107 (2 : Int32) vs107 .null h113 n0 C114.size F_b108_arguments F_b108_next V_bc111) (argsL := []) pd11 rfl 1 (by decide) (by decide) (by decide) (by decide) (rest := [(.int (1 : Int32))]) rfl rfl (Nat.le_of_eq rfl) at_125 rfl (fun v115 T115 h115 C115 qq115 => ?_)
      obtain ⟨rfl, hh115⟩ := qq115
      have hh115 := hh115.symm; subst hh115
      show Go p e below F n0 (fun v _ => v = some (.int (1 : Int32))) T115 (mkF m 128 #[.val (.int i0), .val (.int i1), .val (.int i2), .val (.int i3), .val (.int (2 : Int32)), .val (.int (2 : Int32)), .val (.ref bo107), .val (.ref b108), .val (.int (1 : Int32)), .val (.int (1 : Int32))] [(.int (f11 ((0 : Int32) + (1 : Int32)) (2 : Int32))), (.int (1 : Int32))])
      refine C115.iload at_128 rfl rfl ?_
      refine C115.iload at_130 rfl rfl ?_
      refine C115.icmp_ge at_132 (by decide) (by decide : _ = 139) rfl (fun q => absurd (by decide) q) (fun _ => ?_)
      refine C115.iconst (1 : Int32) at_135 rfl rfl ?_
      refine C115.goto at_136 (by decide) (by decide : _ = 140) ?_
      refine C115.icmp_ne at_140 (by decide) (by decide : _ = 147) rfl (fun q => absurd (by decide) q) (fun _ => ?_)
      refine C115.iconst (1 : Int32) at_143 rfl rfl ?_
      refine C115.goto at_144 (by decide) (by decide : _ = 148) ?_
      refine C115.iand at_148 rfl ?_
      rw [own_and11]
      refine C115.istore at_149 rfl (L' := #[.val (.int i0), .val (.int i1), .val (.int i2), .val (.int i3), .val (.int (2 : Int32)), .val (.int (2 : Int32)), .val (.ref bo107), .val (.ref b108), .val (.int (1 : Int32)), .val (.int (1 : Int32))]) rfl ?_
      refine C115.iload at_151 rfl rfl ?_
      refine C115.iconst (2 : Int32) at_153 rfl rfl ?_
      refine C115.icmp_lt at_154 (by decide) (by decide : _ = 172) rfl (fun q => absurd q (by decide)) (fun _ => ?_)
      refine C115.iconst (1 : Int32) at_157 rfl rfl ?_
      refine C115.iload at_158 rfl rfl ?_
      refine C115.icmp_ge at_160 (by decide) (by decide : _ = 172) rfl (fun q => absurd (by decide) q) (fun _ => ?_)
      refine C115.aload at_163 rfl rfl rfl ?_
      refine C115.callV (hw _ (List.mem_of_getElem? (i := 93) rfl)) (hw _ (List.mem_of_getElem? (i := 94) rfl)) (hw _ (List.mem_of_getElem? (i := 96) rfl)) (hw _ (List.mem_of_getElem? (i := 95) rfl)) (hw _ (List.mem_of_getElem? (i := 34) rfl)) (hw _ (List.mem_of_getElem? (i := 97) rfl)) E_b108 (by decide) (a := b108) (rm12 l Z a0 hw b108 bc111 ((0 : Int32) + (1 : Int32)) ko107 (2 : Int32) vs107 .null h113 n0 C115.size E_b108 F_b108_arguments F_b108_next V_bc111 E_bc111 g_b108 ⟨by decide, by decide⟩ hr) (argsL := []) pd12 rfl 0 (by decide) (by decide) (by decide) (by decide) (rest := []) rfl rfl (Nat.le_of_eq rfl) at_165 rfl (fun v116 T116 h116 C116 qq116 => ?_)
      obtain ⟨rfl, K116, p116_0, p116_1, p116_2⟩ := qq116
      have S_COMPACT_STRINGS := own_stak S_COMPACT_STRINGS K116 (allS (own_plainE E_b108) (all0))
      have S_DEFAULTCAPACITY_EMPTY_ELEMENTDATA := own_stak S_DEFAULTCAPACITY_EMPTY_ELEMENTDATA K116 (allS (own_plainE E_b108) (all0))
      have E_bo107 := E_bo107.keep K116
      have V_bo107 := V_bo107.keep K116 (ninS ne_bo107_b108 nin0)
      have E_b108 := E_b108.keep K116
      have E_bc111 := E_bc111.keep K116
      have V_bc111 := V_bc111.keep K116 (ninS ne_bc111_b108 nin0)
      have E_b108 := p116_0
      have F_b108_arguments := p116_1
      have F_b108_next := p116_2
      show Go p e below F n0 (fun v _ => v = some (.int (1 : Int32))) T116 (mkF m 168 #[.val (.int i0), .val (.int i1), .val (.int i2), .val (.int i3), .val (.int (2 : Int32)), .val (.int (2 : Int32)), .val (.ref bo107), .val (.ref b108), .val (.int (1 : Int32)), .val (.int (1 : Int32))] [(vs107.getD (((0 : Int32) + (1 : Int32))).toNatClampNeg .null)])
      refine C116.pop at_168 rfl (XT.cat1 (hr _)) ?_
      refine C116.iconst (2 : Int32) at_169 rfl rfl ?_
      refine C116.istore at_170 rfl (L' := #[.val (.int i0), .val (.int i1), .val (.int i2), .val (.int i3), .val (.int (2 : Int32)), .val (.int (2 : Int32)), .val (.ref bo107), .val (.ref b108), .val (.int (1 : Int32)), .val (.int (2 : Int32))]) rfl ?_
      refine C116.iload at_172 rfl rfl ?_
      refine C116.aload at_174 rfl rfl rfl ?_
      refine C116.callV (hw _ (List.mem_of_getElem? (i := 86) rfl)) (hw _ (List.mem_of_getElem? (i := 87) rfl)) (hw _ (List.mem_of_getElem? (i := 89) rfl)) (hw _ (List.mem_of_getElem? (i := 88) rfl)) (hw _ (List.mem_of_getElem? (i := 34) rfl)) (hw _ (List.mem_of_getElem? (i := 90) rfl)) E_b108 (by decide) (a := b108) (rm11 l Z a0 hw b108 bc111 (((0 : Int32) + (1 : Int32)) + (1 : Int32)) ko107 (2 : Int32) vs107 .null h116 n0 C116.size F_b108_arguments F_b108_next V_bc111) (argsL := []) pd11 rfl 1 (by decide) (by decide) (by decide) (by decide) (rest := [(.int (1 : Int32))]) rfl rfl (Nat.le_of_eq rfl) at_176 rfl (fun v117 T117 h117 C117 qq117 => ?_)
      obtain ⟨rfl, hh117⟩ := qq117
      have hh117 := hh117.symm; subst hh117
      show Go p e below F n0 (fun v _ => v = some (.int (1 : Int32))) T117 (mkF m 179 #[.val (.int i0), .val (.int i1), .val (.int i2), .val (.int i3), .val (.int (2 : Int32)), .val (.int (2 : Int32)), .val (.ref bo107), .val (.ref b108), .val (.int (1 : Int32)), .val (.int (2 : Int32))] [(.int (f11 (((0 : Int32) + (1 : Int32)) + (1 : Int32)) (2 : Int32))), (.int (1 : Int32))])
      refine C117.iload at_179 rfl rfl ?_
      refine C117.iload at_181 rfl rfl ?_
      refine C117.icmp_ge at_183 (by decide) (by decide : _ = 190) rfl (fun _ => ?_) (fun q => absurd q (by decide))
      refine C117.iconst (0 : Int32) at_190 rfl rfl ?_
      refine C117.icmp_ne at_191 (by decide) (by decide : _ = 198) rfl (fun q => absurd (by decide) q) (fun _ => ?_)
      refine C117.iconst (1 : Int32) at_194 rfl rfl ?_
      refine C117.goto at_195 (by decide) (by decide : _ = 199) ?_
      refine C117.iand at_199 rfl ?_
      rw [own_and11]
      refine C117.istore at_200 rfl (L' := #[.val (.int i0), .val (.int i1), .val (.int i2), .val (.int i3), .val (.int (2 : Int32)), .val (.int (2 : Int32)), .val (.ref bo107), .val (.ref b108), .val (.int (1 : Int32)), .val (.int (2 : Int32))]) rfl ?_
      refine C117.iload at_202 rfl rfl ?_
      refine C117.iconst (3 : Int32) at_204 rfl rfl ?_
      refine C117.icmp_lt at_205 (by decide) (by decide : _ = 223) rfl (fun _ => ?_) (fun q => absurd (by decide) q)
      refine C117.iload at_223 rfl rfl ?_
      refine C117.aload at_225 rfl rfl rfl ?_
      refine C117.callV (hw _ (List.mem_of_getElem? (i := 86) rfl)) (hw _ (List.mem_of_getElem? (i := 87) rfl)) (hw _ (List.mem_of_getElem? (i := 89) rfl)) (hw _ (List.mem_of_getElem? (i := 88) rfl)) (hw _ (List.mem_of_getElem? (i := 34) rfl)) (hw _ (List.mem_of_getElem? (i := 90) rfl)) E_b108 (by decide) (a := b108) (rm11 l Z a0 hw b108 bc111 (((0 : Int32) + (1 : Int32)) + (1 : Int32)) ko107 (2 : Int32) vs107 .null h116 n0 C117.size F_b108_arguments F_b108_next V_bc111) (argsL := []) pd11 rfl 1 (by decide) (by decide) (by decide) (by decide) (rest := [(.int (1 : Int32))]) rfl rfl (Nat.le_of_eq rfl) at_227 rfl (fun v118 T118 h118 C118 qq118 => ?_)
      obtain ⟨rfl, hh118⟩ := qq118
      have hh118 := hh118.symm; subst hh118
      show Go p e below F n0 (fun v _ => v = some (.int (1 : Int32))) T118 (mkF m 230 #[.val (.int i0), .val (.int i1), .val (.int i2), .val (.int i3), .val (.int (2 : Int32)), .val (.int (2 : Int32)), .val (.ref bo107), .val (.ref b108), .val (.int (1 : Int32)), .val (.int (2 : Int32))] [(.int (f11 (((0 : Int32) + (1 : Int32)) + (1 : Int32)) (2 : Int32))), (.int (1 : Int32))])
      refine C118.iload at_230 rfl rfl ?_
      refine C118.iload at_232 rfl rfl ?_
      refine C118.icmp_ge at_234 (by decide) (by decide : _ = 241) rfl (fun _ => ?_) (fun q => absurd q (by decide))
      refine C118.iconst (0 : Int32) at_241 rfl rfl ?_
      refine C118.icmp_ne at_242 (by decide) (by decide : _ = 249) rfl (fun q => absurd (by decide) q) (fun _ => ?_)
      refine C118.iconst (1 : Int32) at_245 rfl rfl ?_
      refine C118.goto at_246 (by decide) (by decide : _ = 250) ?_
      refine C118.iand at_250 rfl ?_
      rw [own_and11]
      refine C118.istore at_251 rfl (L' := #[.val (.int i0), .val (.int i1), .val (.int i2), .val (.int i3), .val (.int (2 : Int32)), .val (.int (2 : Int32)), .val (.ref bo107), .val (.ref b108), .val (.int (1 : Int32)), .val (.int (2 : Int32))]) rfl ?_
      refine C118.iload at_253 rfl rfl ?_
      exact C118.retN (t := .boolean) at_255 rfl (by simp) (by decide) (by decide) (w := (1 : Int32)) rfl rfl
    · subst e
      refine C0.iload at_10 rfl rfl ?_
      refine C0.iloadN at_12 rfl rfl ?_
      refine C0.callS (hw _ (List.mem_of_getElem? (i := 0) rfl)) (hw _ (List.mem_of_getElem? (i := 1) rfl)) (hw _ (List.mem_of_getElem? (i := 2) rfl)) (hw _ (List.mem_of_getElem? (i := 3) rfl)) (by decide) (rm1 l Z a0 hw (2 : Int32) i2 cs h0 n0 C0.size S_COMPACT_STRINGS hcs (Or.inr (Or.inr (Or.inl rfl)))) (argsL := [(.int (2 : Int32)), (.int i2)]) pd1 rfl 0 (by decide) (by decide) (by decide) (by decide) (rest := []) rfl rfl (Nat.le_of_eq rfl) at_13 rfl (fun v119 T119 h119 C119 qq119 => ?_)
      obtain ⟨bo119, ko119, vs119, rfl, K119, p119_0, p119_1, p119_2, p119_3⟩ := qq119
      have K119 := ext_keep K119
      have S_COMPACT_STRINGS := S_COMPACT_STRINGS.ext K119
      have S_DEFAULTCAPACITY_EMPTY_ELEMENTDATA := S_DEFAULTCAPACITY_EMPTY_ELEMENTDATA.ext K119
      have E_bo119 := p119_0
      have V_bo119 := p119_1
      have hr := p119_2
      have g_bo119 := p119_3
      show Go p e below F n0 (fun v _ => v = some (.int (1 : Int32))) T119 (mkF m 16 #[.val (.int i0), .val (.int i1), .val (.int i2), .val (.int i3), .val (.int (2 : Int32)), .val (.int (3 : Int32)), .unset, .unset, .unset, .unset] [(.ref bo119)])
      refine C119.astore at_16 rfl rfl (L' := #[.val (.int i0), .val (.int i1), .val (.int i2), .val (.int i3), .val (.int (2 : Int32)), .val (.int (3 : Int32)), .val (.ref bo119), .unset, .unset, .unset]) rfl ?_
      refine C119.new (hw _ (List.mem_of_getElem? (i := 32) rfl)) (hw _ (List.mem_of_getElem? (i := 33) rfl)) (hw _ (List.mem_of_getElem? (i := 34) rfl)) at_18 rfl (by decide) (by decide) (fun T120 h120 b120 C120 e120 g_b120 E120 E_b120 D120 => ?_)
      have ne_bo119_b120 : bo119 ≠ b120 := Nat.ne_of_lt (Nat.lt_of_lt_of_eq E_bo119.lt e120.symm)
      have S_COMPACT_STRINGS := S_COMPACT_STRINGS.ext E120
      have S_DEFAULTCAPACITY_EMPTY_ELEMENTDATA := S_DEFAULTCAPACITY_EMPTY_ELEMENTDATA.ext E120
      have E_bo119 := E_bo119.ext E120
      have V_bo119 := V_bo119.ext E120
      have F_b120_operands : Fld Z h120 b120 "com/example/bouncer/bouncer/cli/Arguments" "operands" "Ljava/util/List;" .null := D120 (Or.inr (hw _ (List.mem_of_getElem? (i := 68) rfl))) (ty := (.object "java/util/List")) (by decide)
      have F_b120_command : Fld Z h120 b120 "com/example/bouncer/bouncer/cli/Arguments" "command" "Ljava/lang/String;" .null := D120 (Or.inr (hw _ (List.mem_of_getElem? (i := 70) rfl))) (ty := (.object "java/lang/String")) (by decide)
      have F_b120_usage : Fld Z h120 b120 "com/example/bouncer/bouncer/cli/Arguments" "usage" "Ljava/lang/String;" .null := D120 (Or.inr (hw _ (List.mem_of_getElem? (i := 72) rfl))) (ty := (.object "java/lang/String")) (by decide)
      have F_b120_arguments : Fld Z h120 b120 "com/example/bouncer/bouncer/cli/Arguments" "arguments" "[Ljava/lang/String;" .null := D120 (Or.inr (hw _ (List.mem_of_getElem? (i := 83) rfl))) (ty := (.array (.object "java/lang/String"))) (by decide)
      have F_b120_maxOperands : Fld Z h120 b120 "com/example/bouncer/bouncer/cli/Arguments" "maxOperands" "I" (.int (0 : Int32)) := D120 (Or.inr (hw _ (List.mem_of_getElem? (i := 85) rfl))) (ty := .int) (by decide)
      have F_b120_next : Fld Z h120 b120 "com/example/bouncer/bouncer/cli/Arguments" "next" "I" (.int (0 : Int32)) := D120 (Or.inl (hw _ (List.mem_of_getElem? (i := 92) rfl))) (ty := .int) (by decide)
      refine C120.dup at_21 rfl rfl ?_
      refine C120.ldcStr (hw _ (List.mem_of_getElem? (i := 35) rfl)) (own_wS hw) 4 (by decide) (by decide) (by decide) (by decide) at_22 rfl (fun s121 T121 h121 C121 E121 => ?_)
      have S_COMPACT_STRINGS := S_COMPACT_STRINGS.ext E121
      have S_DEFAULTCAPACITY_EMPTY_ELEMENTDATA := S_DEFAULTCAPACITY_EMPTY_ELEMENTDATA.ext E121
      have E_bo119 := E_bo119.ext E121
      have V_bo119 := V_bo119.ext E121
      have E_b120 := E_b120.ext E121
      have F_b120_operands := F_b120_operands.ext E121
      have F_b120_command := F_b120_command.ext E121
      have F_b120_usage := F_b120_usage.ext E121
      have F_b120_arguments := F_b120_arguments.ext E121
      have F_b120_maxOperands := F_b120_maxOperands.ext E121
      have F_b120_next := F_b120_next.ext E121
      refine C121.ldcStr (hw _ (List.mem_of_getElem? (i := 38) rfl)) (own_wS hw) 4 (by decide) (by decide) (by decide) (by decide) at_24 rfl (fun s122 T122 h122 C122 E122 => ?_)
      have S_COMPACT_STRINGS := S_COMPACT_STRINGS.ext E122
      have S_DEFAULTCAPACITY_EMPTY_ELEMENTDATA := S_DEFAULTCAPACITY_EMPTY_ELEMENTDATA.ext E122
      have E_bo119 := E_bo119.ext E122
      have V_bo119 := V_bo119.ext E122
      have E_b120 := E_b120.ext E122
      have F_b120_operands := F_b120_operands.ext E122
      have F_b120_command := F_b120_command.ext E122
      have F_b120_usage := F_b120_usage.ext E122
      have F_b120_arguments := F_b120_arguments.ext E122
      have F_b120_maxOperands := F_b120_maxOperands.ext E122
      have F_b120_next := F_b120_next.ext E122
      refine C122.aload at_26 rfl rfl rfl ?_
      refine C122.iloadN at_28 rfl rfl ?_
      refine C122.callN rfl (hw _ (List.mem_of_getElem? (i := 39) rfl)) (hw _ (List.mem_of_getElem? (i := 40) rfl)) (hw _ (List.mem_of_getElem? (i := 34) rfl)) (hw _ (List.mem_of_getElem? (i := 41) rfl)) (by decide) (a := b120) (rm7 l Z a0 hw b120 s121 s122 bo119 i3 de .null .null .null .null (.int (0 : Int32)) ko119 (2 : Int32) vs119 .null h122 n0 C122.size E_b120 F_b120_operands F_b120_command F_b120_usage F_b120_arguments F_b120_maxOperands F_b120_next g_b120 S_DEFAULTCAPACITY_EMPTY_ELEMENTDATA E_bo119 V_bo119 (by decide)) (argsL := [(.ref s121), (.ref s122), (.ref bo119), (.int i3)]) pd7 rfl 1 (by decide) (by decide) (by decide) (by decide) (rest := [(.ref b120)]) rfl rfl (Nat.le_of_eq rfl) at_29 rfl (fun v123 T123 h123 C123 qq123 => ?_)
      obtain ⟨bc123, rfl, K123, p123_0, p123_1, p123_2, p123_3, p123_4, p123_5⟩ := qq123
      have S_COMPACT_STRINGS := own_stak S_COMPACT_STRINGS K123 (allS (own_plainE E_b120) (all0))
      have S_DEFAULTCAPACITY_EMPTY_ELEMENTDATA := own_stak S_DEFAULTCAPACITY_EMPTY_ELEMENTDATA K123 (allS (own_plainE E_b120) (all0))
      have E_bo119 := E_bo119.keep K123
      have V_bo119 := V_bo119.keep K123 (ninS ne_bo119_b120 nin0)
      have E_b120 := E_b120.keep K123
      have E_b120 := p123_0
      have F_b120_arguments := p123_1
      have F_b120_next := p123_2
      have E_bc123 := p123_3
      have V_bc123 := p123_4
      have g_bc123 := p123_5
      show Go p e below F n0 (fun v _ => v = some (.int (1 : Int32))) T123 (mkF m 32 #[.val (.int i0), .val (.int i1), .val (.int i2), .val (.int i3), .val (.int (2 : Int32)), .val (.int (3 : Int32)), .val (.ref bo119), .unset, .unset, .unset] [(.ref b120)])
      refine C123.astore at_32 rfl rfl (L' := #[.val (.int i0), .val (.int i1), .val (.int i2), .val (.int i3), .val (.int (2 : Int32)), .val (.int (3 : Int32)), .val (.ref bo119), .val (.ref b120), .unset, .unset]) rfl ?_
      refine C123.iconst (1 : Int32) at_34 rfl rfl ?_
      refine C123.istore at_35 rfl (L' := #[.val (.int i0), .val (.int i1), .val (.int i2), .val (.int i3), .val (.int (2 : Int32)), .val (.int (3 : Int32)), .val (.ref bo119), .val (.ref b120), .val (.int (1 : Int32)), .unset]) rfl ?_
      refine C123.iconst (0 : Int32) at_37 rfl rfl ?_
      refine C123.istore at_38 rfl (L' := #[.val (.int i0), .val (.int i1), .val (.int i2), .val (.int i3), .val (.int (2 : Int32)), .val (.int (3 : Int32)), .val (.ref bo119), .val (.ref b120), .val (.int (1 : Int32)), .val (.int (0 : Int32))]) rfl ?_
      refine C123.iload at_40 rfl rfl ?_
      refine C123.aload at_42 rfl rfl rfl ?_
      refine C123.callV (hw _ (List.mem_of_getElem? (i := 86) rfl)) (hw _ (List.mem_of_getElem? (i := 87) rfl)) (hw _ (List.mem_of_getElem? (i := 89) rfl)) (hw _ (List.mem_of_getElem? (i := 88) rfl)) (hw _ (List.mem_of_getElem? (i := 34) rfl)) (hw _ (List.mem_of_getElem? (i := 90) rfl)) E_b120 (by decide) (a := b120) (rm11 l Z a0 hw b120 bc123 (0 : Int32) ko119 (2 : Int32) vs119 .null h123 n0 C123.size F_b120_arguments F_b120_next V_bc123) (argsL := []) pd11 rfl 1 (by decide) (by decide) (by decide) (by decide) (rest := [(.int (1 : Int32))]) rfl rfl (Nat.le_of_eq rfl) at_44 rfl (fun v124 T124 h124 C124 qq124 => ?_)
      obtain ⟨rfl, hh124⟩ := qq124
      have hh124 := hh124.symm; subst hh124
      show Go p e below F n0 (fun v _ => v = some (.int (1 : Int32))) T124 (mkF m 47 #[.val (.int i0), .val (.int i1), .val (.int i2), .val (.int i3), .val (.int (2 : Int32)), .val (.int (3 : Int32)), .val (.ref bo119), .val (.ref b120), .val (.int (1 : Int32)), .val (.int (0 : Int32))] [(.int (f11 (0 : Int32) (2 : Int32))), (.int (1 : Int32))])
      refine C124.iload at_47 rfl rfl ?_
      refine C124.iload at_49 rfl rfl ?_
      refine C124.icmp_ge at_51 (by decide) (by decide : _ = 58) rfl (fun q => absurd (by decide) q) (fun _ => ?_)
      refine C124.iconst (1 : Int32) at_54 rfl rfl ?_
      refine C124.goto at_55 (by decide) (by decide : _ = 59) ?_
      refine C124.icmp_ne at_59 (by decide) (by decide : _ = 66) rfl (fun q => absurd (by decide) q) (fun _ => ?_)
      refine C124.iconst (1 : Int32) at_62 rfl rfl ?_
      refine C124.goto at_63 (by decide) (by decide : _ = 67) ?_
      refine C124.iand at_67 rfl ?_
      rw [own_and11]
      refine C124.istore at_68 rfl (L' := #[.val (.int i0), .val (.int i1), .val (.int i2), .val (.int i3), .val (.int (2 : Int32)), .val (.int (3 : Int32)), .val (.ref bo119), .val (.ref b120), .val (.int (1 : Int32)), .val (.int (0 : Int32))]) rfl ?_
      refine C124.iload at_70 rfl rfl ?_
      refine C124.iconst (1 : Int32) at_72 rfl rfl ?_
      refine C124.icmp_lt at_73 (by decide) (by decide : _ = 91) rfl (fun q => absurd q (by decide)) (fun _ => ?_)
      refine C124.iconst (0 : Int32) at_76 rfl rfl ?_
      refine C124.iload at_77 rfl rfl ?_
      refine C124.icmp_ge at_79 (by decide) (by decide : _ = 91) rfl (fun q => absurd (by decide) q) (fun _ => ?_)
      refine C124.aload at_82 rfl rfl rfl ?_
      refine C124.callV (hw _ (List.mem_of_getElem? (i := 93) rfl)) (hw _ (List.mem_of_getElem? (i := 94) rfl)) (hw _ (List.mem_of_getElem? (i := 96) rfl)) (hw _ (List.mem_of_getElem? (i := 95) rfl)) (hw _ (List.mem_of_getElem? (i := 34) rfl)) (hw _ (List.mem_of_getElem? (i := 97) rfl)) E_b120 (by decide) (a := b120) (rm12 l Z a0 hw b120 bc123 (0 : Int32) ko119 (2 : Int32) vs119 .null h123 n0 C124.size E_b120 F_b120_arguments F_b120_next V_bc123 E_bc123 g_b120 ⟨by decide, by decide⟩ hr) (argsL := []) pd12 rfl 0 (by decide) (by decide) (by decide) (by decide) (rest := []) rfl rfl (Nat.le_of_eq rfl) at_84 rfl (fun v125 T125 h125 C125 qq125 => ?_)
      obtain ⟨rfl, K125, p125_0, p125_1, p125_2⟩ := qq125
      have ne_bc123_b120 : bc123 ≠ b120 := (ne_exa E_bc123 E_b120 (by decide))
      have S_COMPACT_STRINGS := own_stak S_COMPACT_STRINGS K125 (allS (own_plainE E_b120) (all0))
      have S_DEFAULTCAPACITY_EMPTY_ELEMENTDATA := own_stak S_DEFAULTCAPACITY_EMPTY_ELEMENTDATA K125 (allS (own_plainE E_b120) (all0))
      have E_bo119 := E_bo119.keep K125
      have V_bo119 := V_bo119.keep K125 (ninS ne_bo119_b120 nin0)
      have E_b120 := E_b120.keep K125
      have E_bc123 := E_bc123.keep K125
      have V_bc123 := V_bc123.keep K125 (ninS ne_bc123_b120 nin0)
      have E_b120 := p125_0
      have F_b120_arguments := p125_1
      have F_b120_next := p125_2
      show Go p e below F n0 (fun v _ => v = some (.int (1 : Int32))) T125 (mkF m 87 #[.val (.int i0), .val (.int i1), .val (.int i2), .val (.int i3), .val (.int (2 : Int32)), .val (.int (3 : Int32)), .val (.ref bo119), .val (.ref b120), .val (.int (1 : Int32)), .val (.int (0 : Int32))] [(vs119.getD ((0 : Int32)).toNatClampNeg .null)])
      refine C125.pop at_87 rfl (XT.cat1 (hr _)) ?_
      refine C125.iconst (1 : Int32) at_88 rfl rfl ?_
      refine C125.istore at_89 rfl (L' := #[.val (.int i0), .val (.int i1), .val (.int i2), .val (.int i3), .val (.int (2 : Int32)), .val (.int (3 : Int32)), .val (.ref bo119), .val (.ref b120), .val (.int (1 : Int32)), .val (.int (1 : Int32))]) rfl ?_
      refine C125.iload at_91 rfl rfl ?_
      refine C125.aload at_93 rfl rfl rfl ?_
      refine C125.callV (hw _ (List.mem_of_getElem? (i := 86) rfl)) (hw _ (List.mem_of_getElem? (i := 87) rfl)) (hw _ (List.mem_of_getElem? (i := 89) rfl)) (hw _ (List.mem_of_getElem? (i := 88) rfl)) (hw _ (List.mem_of_getElem? (i := 34) rfl)) (hw _ (List.mem_of_getElem? (i := 90) rfl)) E_b120 (by decide) (a := b120) (rm11 l Z a0 hw b120 bc123 ((0 : Int32) + (1 : Int32)) ko119 (2 : Int32) vs119 .null h125 n0 C125.size F_b120_arguments F_b120_next V_bc123) (argsL := []) pd11 rfl 1 (by decide) (by decide) (by decide) (by decide) (rest := [(.int (1 : Int32))]) rfl rfl (Nat.le_of_eq rfl) at_95 rfl (fun v126 T126 h126 C126 qq126 => ?_)
      obtain ⟨rfl, hh126⟩ := qq126
      have hh126 := hh126.symm; subst hh126
      show Go p e below F n0 (fun v _ => v = some (.int (1 : Int32))) T126 (mkF m 98 #[.val (.int i0), .val (.int i1), .val (.int i2), .val (.int i3), .val (.int (2 : Int32)), .val (.int (3 : Int32)), .val (.ref bo119), .val (.ref b120), .val (.int (1 : Int32)), .val (.int (1 : Int32))] [(.int (f11 ((0 : Int32) + (1 : Int32)) (2 : Int32))), (.int (1 : Int32))])
      refine C126.iload at_98 rfl rfl ?_
      refine C126.iload at_100 rfl rfl ?_
      refine C126.icmp_ge at_102 (by decide) (by decide : _ = 109) rfl (fun q => absurd (by decide) q) (fun _ => ?_)
      refine C126.iconst (1 : Int32) at_105 rfl rfl ?_
      refine C126.goto at_106 (by decide) (by decide : _ = 110) ?_
      refine C126.icmp_ne at_110 (by decide) (by decide : _ = 117) rfl (fun q => absurd (by decide) q) (fun _ => ?_)
      refine C126.iconst (1 : Int32) at_113 rfl rfl ?_
      refine C126.goto at_114 (by decide) (by decide : _ = 118) ?_
      refine C126.iand at_118 rfl ?_
      rw [own_and11]
      refine C126.istore at_119 rfl (L' := #[.val (.int i0), .val (.int i1), .val (.int i2), .val (.int i3), .val (.int (2 : Int32)), .val (.int (3 : Int32)), .val (.ref bo119), .val (.ref b120), .val (.int (1 : Int32)), .val (.int (1 : Int32))]) rfl ?_
      refine C126.iload at_121 rfl rfl ?_
      refine C126.aload at_123 rfl rfl rfl ?_
      refine C126.callV (hw _ (List.mem_of_getElem? (i := 86) rfl)) (hw _ (List.mem_of_getElem? (i := 87) rfl)) (hw _ (List.mem_of_getElem? (i := 89) rfl)) (hw _ (List.mem_of_getElem? (i := 88) rfl)) (hw _ (List.mem_of_getElem? (i := 34) rfl)) (hw _ (List.mem_of_getElem? (i := 90) rfl)) E_b120 (by decide) (a := b120) (rm11 l Z a0 hw b120 bc123 ((0 : Int32) + (1 : Int32)) ko119 (2 : Int32) vs119 .null h125 n0 C126.size F_b120_arguments F_b120_next V_bc123) (argsL := []) pd11 rfl 1 (by decide) (by decide) (by decide) (by decide) (rest := [(.int (1 : Int32))]) rfl rfl (Nat.le_of_eq rfl) at_125 rfl (fun v127 T127 h127 C127 qq127 => ?_)
      obtain ⟨rfl, hh127⟩ := qq127
      have hh127 := hh127.symm; subst hh127
      show Go p e below F n0 (fun v _ => v = some (.int (1 : Int32))) T127 (mkF m 128 #[.val (.int i0), .val (.int i1), .val (.int i2), .val (.int i3), .val (.int (2 : Int32)), .val (.int (3 : Int32)), .val (.ref bo119), .val (.ref b120), .val (.int (1 : Int32)), .val (.int (1 : Int32))] [(.int (f11 ((0 : Int32) + (1 : Int32)) (2 : Int32))), (.int (1 : Int32))])
      refine C127.iload at_128 rfl rfl ?_
      refine C127.iload at_130 rfl rfl ?_
      refine C127.icmp_ge at_132 (by decide) (by decide : _ = 139) rfl (fun q => absurd (by decide) q) (fun _ => ?_)
      refine C127.iconst (1 : Int32) at_135 rfl rfl ?_
      refine C127.goto at_136 (by decide) (by decide : _ = 140) ?_
      refine C127.icmp_ne at_140 (by decide) (by decide : _ = 147) rfl (fun q => absurd (by decide) q) (fun _ => ?_)
      refine C127.iconst (1 : Int32) at_143 rfl rfl ?_
      refine C127.goto at_144 (by decide) (by decide : _ = 148) ?_
      refine C127.iand at_148 rfl ?_
      rw [own_and11]
      refine C127.istore at_149 rfl (L' := #[.val (.int i0), .val (.int i1), .val (.int i2), .val (.int i3), .val (.int (2 : Int32)), .val (.int (3 : Int32)), .val (.ref bo119), .val (.ref b120), .val (.int (1 : Int32)), .val (.int (1 : Int32))]) rfl ?_
      refine C127.iload at_151 rfl rfl ?_
      refine C127.iconst (2 : Int32) at_153 rfl rfl ?_
      refine C127.icmp_lt at_154 (by decide) (by decide : _ = 172) rfl (fun q => absurd q (by decide)) (fun _ => ?_)
      refine C127.iconst (1 : Int32) at_157 rfl rfl ?_
      refine C127.iload at_158 rfl rfl ?_
      refine C127.icmp_ge at_160 (by decide) (by decide : _ = 172) rfl (fun q => absurd (by decide) q) (fun _ => ?_)
      refine C127.aload at_163 rfl rfl rfl ?_
      refine C127.callV (hw _ (List.mem_of_getElem? (i := 93) rfl)) (hw _ (List.mem_of_getElem? (i := 94) rfl)) (hw _ (List.mem_of_getElem? (i := 96) rfl)) (hw _ (List.mem_of_getElem? (i := 95) rfl)) (hw _ (List.mem_of_getElem? (i := 34) rfl)) (hw _ (List.mem_of_getElem? (i := 97) rfl)) E_b120 (by decide) (a := b120) (rm12 l Z a0 hw b120 bc123 ((0 : Int32) + (1 : Int32)) ko119 (2 : Int32) vs119 .null h125 n0 C127.size E_b120 F_b120_arguments F_b120_next V_bc123 E_bc123 g_b120 ⟨by decide, by decide⟩ hr) (argsL := []) pd12 rfl 0 (by decide) (by decide) (by decide) (by decide) (rest := []) rfl rfl (Nat.le_of_eq rfl) at_165 rfl (fun v128 T128 h128 C128 qq128 => ?_)
      obtain ⟨rfl, K128, p128_0, p128_1, p128_2⟩ := qq128
      have S_COMPACT_STRINGS := own_stak S_COMPACT_STRINGS K128 (allS (own_plainE E_b120) (all0))
      have S_DEFAULTCAPACITY_EMPTY_ELEMENTDATA := own_stak S_DEFAULTCAPACITY_EMPTY_ELEMENTDATA K128 (allS (own_plainE E_b120) (all0))
      have E_bo119 := E_bo119.keep K128
      have V_bo119 := V_bo119.keep K128 (ninS ne_bo119_b120 nin0)
      have E_b120 := E_b120.keep K128
      have E_bc123 := E_bc123.keep K128
      have V_bc123 := V_bc123.keep K128 (ninS ne_bc123_b120 nin0)
      have E_b120 := p128_0
      have F_b120_arguments := p128_1
      have F_b120_next := p128_2
      show Go p e below F n0 (fun v _ => v = some (.int (1 : Int32))) T128 (mkF m 168 #[.val (.int i0), .val (.int i1), .val (.int i2), .val (.int i3), .val (.int (2 : Int32)), .val (.int (3 : Int32)), .val (.ref bo119), .val (.ref b120), .val (.int (1 : Int32)), .val (.int (1 : Int32))] [(vs119.getD (((0 : Int32) + (1 : Int32))).toNatClampNeg .null)])
      refine C128.pop at_168 rfl (XT.cat1 (hr _)) ?_
      refine C128.iconst (2 : Int32) at_169 rfl rfl ?_
      refine C128.istore at_170 rfl (L' := #[.val (.int i0), .val (.int i1), .val (.int i2), .val (.int i3), .val (.int (2 : Int32)), .val (.int (3 : Int32)), .val (.ref bo119), .val (.ref b120), .val (.int (1 : Int32)), .val (.int (2 : Int32))]) rfl ?_
      refine C128.iload at_172 rfl rfl ?_
      refine C128.aload at_174 rfl rfl rfl ?_
      refine C128.callV (hw _ (List.mem_of_getElem? (i := 86) rfl)) (hw _ (List.mem_of_getElem? (i := 87) rfl)) (hw _ (List.mem_of_getElem? (i := 89) rfl)) (hw _ (List.mem_of_getElem? (i := 88) rfl)) (hw _ (List.mem_of_getElem? (i := 34) rfl)) (hw _ (List.mem_of_getElem? (i := 90) rfl)) E_b120 (by decide) (a := b120) (rm11 l Z a0 hw b120 bc123 (((0 : Int32) + (1 : Int32)) + (1 : Int32)) ko119 (2 : Int32) vs119 .null h128 n0 C128.size F_b120_arguments F_b120_next V_bc123) (argsL := []) pd11 rfl 1 (by decide) (by decide) (by decide) (by decide) (rest := [(.int (1 : Int32))]) rfl rfl (Nat.le_of_eq rfl) at_176 rfl (fun v129 T129 h129 C129 qq129 => ?_)
      obtain ⟨rfl, hh129⟩ := qq129
      have hh129 := hh129.symm; subst hh129
      show Go p e below F n0 (fun v _ => v = some (.int (1 : Int32))) T129 (mkF m 179 #[.val (.int i0), .val (.int i1), .val (.int i2), .val (.int i3), .val (.int (2 : Int32)), .val (.int (3 : Int32)), .val (.ref bo119), .val (.ref b120), .val (.int (1 : Int32)), .val (.int (2 : Int32))] [(.int (f11 (((0 : Int32) + (1 : Int32)) + (1 : Int32)) (2 : Int32))), (.int (1 : Int32))])
      refine C129.iload at_179 rfl rfl ?_
      refine C129.iload at_181 rfl rfl ?_
      refine C129.icmp_ge at_183 (by decide) (by decide : _ = 190) rfl (fun _ => ?_) (fun q => absurd q (by decide))
      refine C129.iconst (0 : Int32) at_190 rfl rfl ?_
      refine C129.icmp_ne at_191 (by decide) (by decide : _ = 198) rfl (fun q => absurd (by decide) q) (fun _ => ?_)
      refine C129.iconst (1 : Int32) at_194 rfl rfl ?_
      refine C129.goto at_195 (by decide) (by decide : _ = 199) ?_
      refine C129.iand at_199 rfl ?_
      rw [own_and11]
      refine C129.istore at_200 rfl (L' := #[.val (.int i0), .val (.int i1), .val (.int i2), .val (.int i3), .val (.int (2 : Int32)), .val (.int (3 : Int32)), .val (.ref bo119), .val (.ref b120), .val (.int (1 : Int32)), .val (.int (2 : Int32))]) rfl ?_
      refine C129.iload at_202 rfl rfl ?_
      refine C129.iconst (3 : Int32) at_204 rfl rfl ?_
      refine C129.icmp_lt at_205 (by decide) (by decide : _ = 223) rfl (fun q => absurd q (by decide)) (fun _ => ?_)
      refine C129.iconst (2 : Int32) at_208 rfl rfl ?_
      refine C129.iload at_209 rfl rfl ?_
      refine C129.icmp_ge at_211 (by decide) (by decide : _ = 223) rfl (fun _ => ?_) (fun q => absurd q (by decide))
      refine C129.iload at_223 rfl rfl ?_
      refine C129.aload at_225 rfl rfl rfl ?_
      refine C129.callV (hw _ (List.mem_of_getElem? (i := 86) rfl)) (hw _ (List.mem_of_getElem? (i := 87) rfl)) (hw _ (List.mem_of_getElem? (i := 89) rfl)) (hw _ (List.mem_of_getElem? (i := 88) rfl)) (hw _ (List.mem_of_getElem? (i := 34) rfl)) (hw _ (List.mem_of_getElem? (i := 90) rfl)) E_b120 (by decide) (a := b120) (rm11 l Z a0 hw b120 bc123 (((0 : Int32) + (1 : Int32)) + (1 : Int32)) ko119 (2 : Int32) vs119 .null h128 n0 C129.size F_b120_arguments F_b120_next V_bc123) (argsL := []) pd11 rfl 1 (by decide) (by decide) (by decide) (by decide) (rest := [(.int (1 : Int32))]) rfl rfl (Nat.le_of_eq rfl) at_227 rfl (fun v130 T130 h130 C130 qq130 => ?_)
      obtain ⟨rfl, hh130⟩ := qq130
      have hh130 := hh130.symm; subst hh130
      show Go p e below F n0 (fun v _ => v = some (.int (1 : Int32))) T130 (mkF m 230 #[.val (.int i0), .val (.int i1), .val (.int i2), .val (.int i3), .val (.int (2 : Int32)), .val (.int (3 : Int32)), .val (.ref bo119), .val (.ref b120), .val (.int (1 : Int32)), .val (.int (2 : Int32))] [(.int (f11 (((0 : Int32) + (1 : Int32)) + (1 : Int32)) (2 : Int32))), (.int (1 : Int32))])
      refine C130.iload at_230 rfl rfl ?_
      refine C130.iload at_232 rfl rfl ?_
      refine C130.icmp_ge at_234 (by decide) (by decide : _ = 241) rfl (fun _ => ?_) (fun q => absurd q (by decide))
      refine C130.iconst (0 : Int32) at_241 rfl rfl ?_
      refine C130.icmp_ne at_242 (by decide) (by decide : _ = 249) rfl (fun q => absurd (by decide) q) (fun _ => ?_)
      refine C130.iconst (1 : Int32) at_245 rfl rfl ?_
      refine C130.goto at_246 (by decide) (by decide : _ = 250) ?_
      refine C130.iand at_250 rfl ?_
      rw [own_and11]
      refine C130.istore at_251 rfl (L' := #[.val (.int i0), .val (.int i1), .val (.int i2), .val (.int i3), .val (.int (2 : Int32)), .val (.int (3 : Int32)), .val (.ref bo119), .val (.ref b120), .val (.int (1 : Int32)), .val (.int (2 : Int32))]) rfl ?_
      refine C130.iload at_253 rfl rfl ?_
      exact C130.retN (t := .boolean) at_255 rfl (by simp) (by decide) (by decide) (w := (1 : Int32)) rfl rfl
  · subst e
    rcases own_c4 hv2 with e | e | e | e
    · subst e
      refine C0.iload at_10 rfl rfl ?_
      refine C0.iloadN at_12 rfl rfl ?_
      refine C0.callS (hw _ (List.mem_of_getElem? (i := 0) rfl)) (hw _ (List.mem_of_getElem? (i := 1) rfl)) (hw _ (List.mem_of_getElem? (i := 2) rfl)) (hw _ (List.mem_of_getElem? (i := 3) rfl)) (by decide) (rm1 l Z a0 hw (3 : Int32) i2 cs h0 n0 C0.size S_COMPACT_STRINGS hcs (Or.inr (Or.inr (Or.inr rfl)))) (argsL := [(.int (3 : Int32)), (.int i2)]) pd1 rfl 0 (by decide) (by decide) (by decide) (by decide) (rest := []) rfl rfl (Nat.le_of_eq rfl) at_13 rfl (fun v131 T131 h131 C131 qq131 => ?_)
      obtain ⟨bo131, ko131, vs131, rfl, K131, p131_0, p131_1, p131_2, p131_3⟩ := qq131
      have K131 := ext_keep K131
      have S_COMPACT_STRINGS := S_COMPACT_STRINGS.ext K131
      have S_DEFAULTCAPACITY_EMPTY_ELEMENTDATA := S_DEFAULTCAPACITY_EMPTY_ELEMENTDATA.ext K131
      have E_bo131 := p131_0
      have V_bo131 := p131_1
      have hr := p131_2
      have g_bo131 := p131_3
      show Go p e below F n0 (fun v _ => v = some (.int (1 : Int32))) T131 (mkF m 16 #[.val (.int i0), .val (.int i1), .val (.int i2), .val (.int i3), .val (.int (3 : Int32)), .val (.int (0 : Int32)), .unset, .unset, .unset, .unset] [(.ref bo131)])
      refine C131.astore at_16 rfl rfl (L' := #[.val (.int i0), .val (.int i1), .val (.int i2), .val (.int i3), .val (.int (3 : Int32)), .val (.int (0 : Int32)), .val (.ref bo131), .unset, .unset, .unset]) rfl ?_
      refine C131.new (hw _ (List.mem_of_getElem? (i := 32) rfl)) (hw _ (List.mem_of_getElem? (i := 33) rfl)) (hw _ (List.mem_of_getElem? (i := 34) rfl)) at_18 rfl (by decide) (by decide) (fun T132 h132 b132 C132 e132 g_b132 E132 E_b132 D132 => ?_)
      have ne_bo131_b132 : bo131 ≠ b132 := Nat.ne_of_lt (Nat.lt_of_lt_of_eq E_bo131.lt e132.symm)
      have S_COMPACT_STRINGS := S_COMPACT_STRINGS.ext E132
      have S_DEFAULTCAPACITY_EMPTY_ELEMENTDATA := S_DEFAULTCAPACITY_EMPTY_ELEMENTDATA.ext E132
      have E_bo131 := E_bo131.ext E132
      have V_bo131 := V_bo131.ext E132
      have F_b132_operands : Fld Z h132 b132 "com/example/bouncer/bouncer/cli/Arguments" "operands" "Ljava/util/List;" .null := D132 (Or.inr (hw _ (List.mem_of_getElem? (i := 68) rfl))) (ty := (.object "java/util/List")) (by decide)
      have F_b132_command : Fld Z h132 b132 "com/example/bouncer/bouncer/cli/Arguments" "command" "Ljava/lang/String;" .null := D132 (Or.inr (hw _ (List.mem_of_getElem? (i := 70) rfl))) (ty := (.object "java/lang/String")) (by decide)
      have F_b132_usage : Fld Z h132 b132 "com/example/bouncer/bouncer/cli/Arguments" "usage" "Ljava/lang/String;" .null := D132 (Or.inr (hw _ (List.mem_of_getElem? (i := 72) rfl))) (ty := (.object "java/lang/String")) (by decide)
      have F_b132_arguments : Fld Z h132 b132 "com/example/bouncer/bouncer/cli/Arguments" "arguments" "[Ljava/lang/String;" .null := D132 (Or.inr (hw _ (List.mem_of_getElem? (i := 83) rfl))) (ty := (.array (.object "java/lang/String"))) (by decide)
      have F_b132_maxOperands : Fld Z h132 b132 "com/example/bouncer/bouncer/cli/Arguments" "maxOperands" "I" (.int (0 : Int32)) := D132 (Or.inr (hw _ (List.mem_of_getElem? (i := 85) rfl))) (ty := .int) (by decide)
      have F_b132_next : Fld Z h132 b132 "com/example/bouncer/bouncer/cli/Arguments" "next" "I" (.int (0 : Int32)) := D132 (Or.inl (hw _ (List.mem_of_getElem? (i := 92) rfl))) (ty := .int) (by decide)
      refine C132.dup at_21 rfl rfl ?_
      refine C132.ldcStr (hw _ (List.mem_of_getElem? (i := 35) rfl)) (own_wS hw) 4 (by decide) (by decide) (by decide) (by decide) at_22 rfl (fun s133 T133 h133 C133 E133 => ?_)
      have S_COMPACT_STRINGS := S_COMPACT_STRINGS.ext E133
      have S_DEFAULTCAPACITY_EMPTY_ELEMENTDATA := S_DEFAULTCAPACITY_EMPTY_ELEMENTDATA.ext E133
      have E_bo131 := E_bo131.ext E133
      have V_bo131 := V_bo131.ext E133
      have E_b132 := E_b132.ext E133
      have F_b132_operands := F_b132_operands.ext E133
      have F_b132_command := F_b132_command.ext E133
      have F_b132_usage := F_b132_usage.ext E133
      have F_b132_arguments := F_b132_arguments.ext E133
      have F_b132_maxOperands := F_b132_maxOperands.ext E133
      have F_b132_next := F_b132_next.ext E133
      refine C133.ldcStr (hw _ (List.mem_of_getElem? (i := 38) rfl)) (own_wS hw) 4 (by decide) (by decide) (by decide) (by decide) at_24 rfl (fun s134 T134 h134 C134 E134 => ?_)
      have S_COMPACT_STRINGS := S_COMPACT_STRINGS.ext E134
      have S_DEFAULTCAPACITY_EMPTY_ELEMENTDATA := S_DEFAULTCAPACITY_EMPTY_ELEMENTDATA.ext E134
      have E_bo131 := E_bo131.ext E134
      have V_bo131 := V_bo131.ext E134
      have E_b132 := E_b132.ext E134
      have F_b132_operands := F_b132_operands.ext E134
      have F_b132_command := F_b132_command.ext E134
      have F_b132_usage := F_b132_usage.ext E134
      have F_b132_arguments := F_b132_arguments.ext E134
      have F_b132_maxOperands := F_b132_maxOperands.ext E134
      have F_b132_next := F_b132_next.ext E134
      refine C134.aload at_26 rfl rfl rfl ?_
      refine C134.iloadN at_28 rfl rfl ?_
      refine C134.callN rfl (hw _ (List.mem_of_getElem? (i := 39) rfl)) (hw _ (List.mem_of_getElem? (i := 40) rfl)) (hw _ (List.mem_of_getElem? (i := 34) rfl)) (hw _ (List.mem_of_getElem? (i := 41) rfl)) (by decide) (a := b132) (rm7 l Z a0 hw b132 s133 s134 bo131 i3 de .null .null .null .null (.int (0 : Int32)) ko131 (3 : Int32) vs131 .null h134 n0 C134.size E_b132 F_b132_operands F_b132_command F_b132_usage F_b132_arguments F_b132_maxOperands F_b132_next g_b132 S_DEFAULTCAPACITY_EMPTY_ELEMENTDATA E_bo131 V_bo131 (by decide)) (argsL := [(.ref s133), (.ref s134), (.ref bo131), (.int i3)]) pd7 rfl 1 (by decide) (by decide) (by decide) (by decide) (rest := [(.ref b132)]) rfl rfl (Nat.le_of_eq rfl) at_29 rfl (fun v135 T135 h135 C135 qq135 => ?_)
      obtain ⟨bc135, rfl, K135, p135_0, p135_1, p135_2, p135_3, p135_4, p135_5⟩ := qq135
      have S_COMPACT_STRINGS := own_stak S_COMPACT_STRINGS K135 (allS (own_plainE E_b132) (all0))
      have S_DEFAULTCAPACITY_EMPTY_ELEMENTDATA := own_stak S_DEFAULTCAPACITY_EMPTY_ELEMENTDATA K135 (allS (own_plainE E_b132) (all0))
      have E_bo131 := E_bo131.keep K135
      have V_bo131 := V_bo131.keep K135 (ninS ne_bo131_b132 nin0)
      have E_b132 := E_b132.keep K135
      have E_b132 := p135_0
      have F_b132_arguments := p135_1
      have F_b132_next := p135_2
      have E_bc135 := p135_3
      have V_bc135 := p135_4
      have g_bc135 := p135_5
      show Go p e below F n0 (fun v _ => v = some (.int (1 : Int32))) T135 (mkF m 32 #[.val (.int i0), .val (.int i1), .val (.int i2), .val (.int i3), .val (.int (3 : Int32)), .val (.int (0 : Int32)), .val (.ref bo131), .unset, .unset, .unset] [(.ref b132)])
      refine C135.astore at_32 rfl rfl (L' := #[.val (.int i0), .val (.int i1), .val (.int i2), .val (.int i3), .val (.int (3 : Int32)), .val (.int (0 : Int32)), .val (.ref bo131), .val (.ref b132), .unset, .unset]) rfl ?_
      refine C135.iconst (1 : Int32) at_34 rfl rfl ?_
      refine C135.istore at_35 rfl (L' := #[.val (.int i0), .val (.int i1), .val (.int i2), .val (.int i3), .val (.int (3 : Int32)), .val (.int (0 : Int32)), .val (.ref bo131), .val (.ref b132), .val (.int (1 : Int32)), .unset]) rfl ?_
      refine C135.iconst (0 : Int32) at_37 rfl rfl ?_
      refine C135.istore at_38 rfl (L' := #[.val (.int i0), .val (.int i1), .val (.int i2), .val (.int i3), .val (.int (3 : Int32)), .val (.int (0 : Int32)), .val (.ref bo131), .val (.ref b132), .val (.int (1 : Int32)), .val (.int (0 : Int32))]) rfl ?_
      refine C135.iload at_40 rfl rfl ?_
      refine C135.aload at_42 rfl rfl rfl ?_
      refine C135.callV (hw _ (List.mem_of_getElem? (i := 86) rfl)) (hw _ (List.mem_of_getElem? (i := 87) rfl)) (hw _ (List.mem_of_getElem? (i := 89) rfl)) (hw _ (List.mem_of_getElem? (i := 88) rfl)) (hw _ (List.mem_of_getElem? (i := 34) rfl)) (hw _ (List.mem_of_getElem? (i := 90) rfl)) E_b132 (by decide) (a := b132) (rm11 l Z a0 hw b132 bc135 (0 : Int32) ko131 (3 : Int32) vs131 .null h135 n0 C135.size F_b132_arguments F_b132_next V_bc135) (argsL := []) pd11 rfl 1 (by decide) (by decide) (by decide) (by decide) (rest := [(.int (1 : Int32))]) rfl rfl (Nat.le_of_eq rfl) at_44 rfl (fun v136 T136 h136 C136 qq136 => ?_)
      obtain ⟨rfl, hh136⟩ := qq136
      have hh136 := hh136.symm; subst hh136
      show Go p e below F n0 (fun v _ => v = some (.int (1 : Int32))) T136 (mkF m 47 #[.val (.int i0), .val (.int i1), .val (.int i2), .val (.int i3), .val (.int (3 : Int32)), .val (.int (0 : Int32)), .val (.ref bo131), .val (.ref b132), .val (.int (1 : Int32)), .val (.int (0 : Int32))] [(.int (f11 (0 : Int32) (3 : Int32))), (.int (1 : Int32))])
      refine C136.iload at_47 rfl rfl ?_
      refine C136.iload at_49 rfl rfl ?_
      refine C136.icmp_ge at_51 (by decide) (by decide : _ = 58) rfl (fun q => absurd (by decide) q) (fun _ => ?_)
      refine C136.iconst (1 : Int32) at_54 rfl rfl ?_
      refine C136.goto at_55 (by decide) (by decide : _ = 59) ?_
      refine C136.icmp_ne at_59 (by decide) (by decide : _ = 66) rfl (fun q => absurd (by decide) q) (fun _ => ?_)
      refine C136.iconst (1 : Int32) at_62 rfl rfl ?_
      refine C136.goto at_63 (by decide) (by decide : _ = 67) ?_
      refine C136.iand at_67 rfl ?_
      rw [own_and11]
      refine C136.istore at_68 rfl (L' := #[.val (.int i0), .val (.int i1), .val (.int i2), .val (.int i3), .val (.int (3 : Int32)), .val (.int (0 : Int32)), .val (.ref bo131), .val (.ref b132), .val (.int (1 : Int32)), .val (.int (0 : Int32))]) rfl ?_
      refine C136.iload at_70 rfl rfl ?_
      refine C136.iconst (1 : Int32) at_72 rfl rfl ?_
      refine C136.icmp_lt at_73 (by decide) (by decide : _ = 91) rfl (fun _ => ?_) (fun q => absurd (by decide) q)
      refine C136.iload at_91 rfl rfl ?_
      refine C136.aload at_93 rfl rfl rfl ?_
      refine C136.callV (hw _ (List.mem_of_getElem? (i := 86) rfl)) (hw _ (List.mem_of_getElem? (i := 87) rfl)) (hw _ (List.mem_of_getElem? (i := 89) rfl)) (hw _ (List.mem_of_getElem? (i := 88) rfl)) (hw _ (List.mem_of_getElem? (i := 34) rfl)) (hw _ (List.mem_of_getElem? (i := 90) rfl)) E_b132 (by decide) (a := b132) (rm11 l Z a0 hw b132 bc135 (0 : Int32) ko131 (3 : Int32) vs131 .null h135 n0 C136.size F_b132_arguments F_b132_next V_bc135) (argsL := []) pd11 rfl 1 (by decide) (by decide) (by decide) (by decide) (rest := [(.int (1 : Int32))]) rfl rfl (Nat.le_of_eq rfl) at_95 rfl (fun v137 T137 h137 C137 qq137 => ?_)
      obtain ⟨rfl, hh137⟩ := qq137
      have hh137 := hh137.symm; subst hh137
      show Go p e below F n0 (fun v _ => v = some (.int (1 : Int32))) T137 (mkF m 98 #[.val (.int i0), .val (.int i1), .val (.int i2), .val (.int i3), .val (.int (3 : Int32)), .val (.int (0 : Int32)), .val (.ref bo131), .val (.ref b132), .val (.int (1 : Int32)), .val (.int (0 : Int32))] [(.int (f11 (0 : Int32) (3 : Int32))), (.int (1 : Int32))])
      refine C137.iload at_98 rfl rfl ?_
      refine C137.iload at_100 rfl rfl ?_
      refine C137.icmp_ge at_102 (by decide) (by decide : _ = 109) rfl (fun q => absurd (by decide) q) (fun _ => ?_)
      refine C137.iconst (1 : Int32) at_105 rfl rfl ?_
      refine C137.goto at_106 (by decide) (by decide : _ = 110) ?_
      refine C137.icmp_ne at_110 (by decide) (by decide : _ = 117) rfl (fun q => absurd (by decide) q) (fun _ => ?_)
      refine C137.iconst (1 : Int32) at_113 rfl rfl ?_
      refine C137.goto at_114 (by decide) (by decide : _ = 118) ?_
      refine C137.iand at_118 rfl ?_
      rw [own_and11]
      refine C137.istore at_119 rfl (L' := #[.val (.int i0), .val (.int i1), .val (.int i2), .val (.int i3), .val (.int (3 : Int32)), .val (.int (0 : Int32)), .val (.ref bo131), .val (.ref b132), .val (.int (1 : Int32)), .val (.int (0 : Int32))]) rfl ?_
      refine C137.iload at_121 rfl rfl ?_
      refine C137.aload at_123 rfl rfl rfl ?_
      refine C137.callV (hw _ (List.mem_of_getElem? (i := 86) rfl)) (hw _ (List.mem_of_getElem? (i := 87) rfl)) (hw _ (List.mem_of_getElem? (i := 89) rfl)) (hw _ (List.mem_of_getElem? (i := 88) rfl)) (hw _ (List.mem_of_getElem? (i := 34) rfl)) (hw _ (List.mem_of_getElem? (i := 90) rfl)) E_b132 (by decide) (a := b132) (rm11 l Z a0 hw b132 bc135 (0 : Int32) ko131 (3 : Int32) vs131 .null h135 n0 C137.size F_b132_arguments F_b132_next V_bc135) (argsL := []) pd11 rfl 1 (by decide) (by decide) (by decide) (by decide) (rest := [(.int (1 : Int32))]) rfl rfl (Nat.le_of_eq rfl) at_125 rfl (fun v138 T138 h138 C138 qq138 => ?_)
      obtain ⟨rfl, hh138⟩ := qq138
      have hh138 := hh138.symm; subst hh138
      show Go p e below F n0 (fun v _ => v = some (.int (1 : Int32))) T138 (mkF m 128 #[.val (.int i0), .val (.int i1), .val (.int i2), .val (.int i3), .val (.int (3 : Int32)), .val (.int (0 : Int32)), .val (.ref bo131), .val (.ref b132), .val (.int (1 : Int32)), .val (.int (0 : Int32))] [(.int (f11 (0 : Int32) (3 : Int32))), (.int (1 : Int32))])
      refine C138.iload at_128 rfl rfl ?_
      refine C138.iload at_130 rfl rfl ?_
      refine C138.icmp_ge at_132 (by decide) (by decide : _ = 139) rfl (fun q => absurd (by decide) q) (fun _ => ?_)
      refine C138.iconst (1 : Int32) at_135 rfl rfl ?_
      refine C138.goto at_136 (by decide) (by decide : _ = 140) ?_
      refine C138.icmp_ne at_140 (by decide) (by decide : _ = 147) rfl (fun q => absurd (by decide) q) (fun _ => ?_)
      refine C138.iconst (1 : Int32) at_143 rfl rfl ?_
      refine C138.goto at_144 (by decide) (by decide : _ = 148) ?_
      refine C138.iand at_148 rfl ?_
      rw [own_and11]
      refine C138.istore at_149 rfl (L' := #[.val (.int i0), .val (.int i1), .val (.int i2), .val (.int i3), .val (.int (3 : Int32)), .val (.int (0 : Int32)), .val (.ref bo131), .val (.ref b132), .val (.int (1 : Int32)), .val (.int (0 : Int32))]) rfl ?_
      refine C138.iload at_151 rfl rfl ?_
      refine C138.iconst (2 : Int32) at_153 rfl rfl ?_
      refine C138.icmp_lt at_154 (by decide) (by decide : _ = 172) rfl (fun _ => ?_) (fun q => absurd (by decide) q)
      refine C138.iload at_172 rfl rfl ?_
      refine C138.aload at_174 rfl rfl rfl ?_
      refine C138.callV (hw _ (List.mem_of_getElem? (i := 86) rfl)) (hw _ (List.mem_of_getElem? (i := 87) rfl)) (hw _ (List.mem_of_getElem? (i := 89) rfl)) (hw _ (List.mem_of_getElem? (i := 88) rfl)) (hw _ (List.mem_of_getElem? (i := 34) rfl)) (hw _ (List.mem_of_getElem? (i := 90) rfl)) E_b132 (by decide) (a := b132) (rm11 l Z a0 hw b132 bc135 (0 : Int32) ko131 (3 : Int32) vs131 .null h135 n0 C138.size F_b132_arguments F_b132_next V_bc135) (argsL := []) pd11 rfl 1 (by decide) (by decide) (by decide) (by decide) (rest := [(.int (1 : Int32))]) rfl rfl (Nat.le_of_eq rfl) at_176 rfl (fun v139 T139 h139 C139 qq139 => ?_)
      obtain ⟨rfl, hh139⟩ := qq139
      have hh139 := hh139.symm; subst hh139
      show Go p e below F n0 (fun v _ => v = some (.int (1 : Int32))) T139 (mkF m 179 #[.val (.int i0), .val (.int i1), .val (.int i2), .val (.int i3), .val (.int (3 : Int32)), .val (.int (0 : Int32)), .val (.ref bo131), .val (.ref b132), .val (.int (1 : Int32)), .val (.int (0 : Int32))] [(.int (f11 (0 : Int32) (3 : Int32))), (.int (1 : Int32))])
      refine C139.iload at_179 rfl rfl ?_
      refine C139.iload at_181 rfl rfl ?_
      refine C139.icmp_ge at_183 (by decide) (by decide : _ = 190) rfl (fun q => absurd (by decide) q) (fun _ => ?_)
      refine C139.iconst (1 : Int32) at_186 rfl rfl ?_
      refine C139.goto at_187 (by decide) (by decide : _ = 191) ?_
      refine C139.icmp_ne at_191 (by decide) (by decide : _ = 198) rfl (fun q => absurd (by decide) q) (fun _ => ?_)
      refine C139.iconst (1 : Int32) at_194 rfl rfl ?_
      refine C139.goto at_195 (by decide) (by decide : _ = 199) ?_
      refine C139.iand at_199 rfl ?_
      rw [own_and11]
      refine C139.istore at_200 rfl (L' := #[.val (.int i0), .val (.int i1), .val (.int i2), .val (.int i3), .val (.int (3 : Int32)), .val (.int (0 : Int32)), .val (.ref bo131), .val (.ref b132), .val (.int (1 : Int32)), .val (.int (0 : Int32))]) rfl ?_
      refine C139.iload at_202 rfl rfl ?_
      refine C139.iconst (3 : Int32) at_204 rfl rfl ?_
      refine C139.icmp_lt at_205 (by decide) (by decide : _ = 223) rfl (fun _ => ?_) (fun q => absurd (by decide) q)
      refine C139.iload at_223 rfl rfl ?_
      refine C139.aload at_225 rfl rfl rfl ?_
      refine C139.callV (hw _ (List.mem_of_getElem? (i := 86) rfl)) (hw _ (List.mem_of_getElem? (i := 87) rfl)) (hw _ (List.mem_of_getElem? (i := 89) rfl)) (hw _ (List.mem_of_getElem? (i := 88) rfl)) (hw _ (List.mem_of_getElem? (i := 34) rfl)) (hw _ (List.mem_of_getElem? (i := 90) rfl)) E_b132 (by decide) (a := b132) (rm11 l Z a0 hw b132 bc135 (0 : Int32) ko131 (3 : Int32) vs131 .null h135 n0 C139.size F_b132_arguments F_b132_next V_bc135) (argsL := []) pd11 rfl 1 (by decide) (by decide) (by decide) (by decide) (rest := [(.int (1 : Int32))]) rfl rfl (Nat.le_of_eq rfl) at_227 rfl (fun v140 T140 h140 C140 qq140 => ?_)
      obtain ⟨rfl, hh140⟩ := qq140
      have hh140 := hh140.symm; subst hh140
      show Go p e below F n0 (fun v _ => v = some (.int (1 : Int32))) T140 (mkF m 230 #[.val (.int i0), .val (.int i1), .val (.int i2), .val (.int i3), .val (.int (3 : Int32)), .val (.int (0 : Int32)), .val (.ref bo131), .val (.ref b132), .val (.int (1 : Int32)), .val (.int (0 : Int32))] [(.int (f11 (0 : Int32) (3 : Int32))), (.int (1 : Int32))])
      refine C140.iload at_230 rfl rfl ?_
      refine C140.iload at_232 rfl rfl ?_
      refine C140.icmp_ge at_234 (by decide) (by decide : _ = 241) rfl (fun q => absurd (by decide) q) (fun _ => ?_)
      refine C140.iconst (1 : Int32) at_237 rfl rfl ?_
      refine C140.goto at_238 (by decide) (by decide : _ = 242) ?_
      refine C140.icmp_ne at_242 (by decide) (by decide : _ = 249) rfl (fun q => absurd (by decide) q) (fun _ => ?_)
      refine C140.iconst (1 : Int32) at_245 rfl rfl ?_
      refine C140.goto at_246 (by decide) (by decide : _ = 250) ?_
      refine C140.iand at_250 rfl ?_
      rw [own_and11]
      refine C140.istore at_251 rfl (L' := #[.val (.int i0), .val (.int i1), .val (.int i2), .val (.int i3), .val (.int (3 : Int32)), .val (.int (0 : Int32)), .val (.ref bo131), .val (.ref b132), .val (.int (1 : Int32)), .val (.int (0 : Int32))]) rfl ?_
      refine C140.iload at_253 rfl rfl ?_
      exact C140.retN (t := .boolean) at_255 rfl (by simp) (by decide) (by decide) (w := (1 : Int32)) rfl rfl
    · subst e
      refine C0.iload at_10 rfl rfl ?_
      refine C0.iloadN at_12 rfl rfl ?_
      refine C0.callS (hw _ (List.mem_of_getElem? (i := 0) rfl)) (hw _ (List.mem_of_getElem? (i := 1) rfl)) (hw _ (List.mem_of_getElem? (i := 2) rfl)) (hw _ (List.mem_of_getElem? (i := 3) rfl)) (by decide) (rm1 l Z a0 hw (3 : Int32) i2 cs h0 n0 C0.size S_COMPACT_STRINGS hcs (Or.inr (Or.inr (Or.inr rfl)))) (argsL := [(.int (3 : Int32)), (.int i2)]) pd1 rfl 0 (by decide) (by decide) (by decide) (by decide) (rest := []) rfl rfl (Nat.le_of_eq rfl) at_13 rfl (fun v141 T141 h141 C141 qq141 => ?_)
      obtain ⟨bo141, ko141, vs141, rfl, K141, p141_0, p141_1, p141_2, p141_3⟩ := qq141
      have K141 := ext_keep K141
      have S_COMPACT_STRINGS := S_COMPACT_STRINGS.ext K141
      have S_DEFAULTCAPACITY_EMPTY_ELEMENTDATA := S_DEFAULTCAPACITY_EMPTY_ELEMENTDATA.ext K141
      have E_bo141 := p141_0
      have V_bo141 := p141_1
      have hr := p141_2
      have g_bo141 := p141_3
      show Go p e below F n0 (fun v _ => v = some (.int (1 : Int32))) T141 (mkF m 16 #[.val (.int i0), .val (.int i1), .val (.int i2), .val (.int i3), .val (.int (3 : Int32)), .val (.int (1 : Int32)), .unset, .unset, .unset, .unset] [(.ref bo141)])
      refine C141.astore at_16 rfl rfl (L' := #[.val (.int i0), .val (.int i1), .val (.int i2), .val (.int i3), .val (.int (3 : Int32)), .val (.int (1 : Int32)), .val (.ref bo141), .unset, .unset, .unset]) rfl ?_
      refine C141.new (hw _ (List.mem_of_getElem? (i := 32) rfl)) (hw _ (List.mem_of_getElem? (i := 33) rfl)) (hw _ (List.mem_of_getElem? (i := 34) rfl)) at_18 rfl (by decide) (by decide) (fun T142 h142 b142 C142 e142 g_b142 E142 E_b142 D142 => ?_)
      have ne_bo141_b142 : bo141 ≠ b142 := Nat.ne_of_lt (Nat.lt_of_lt_of_eq E_bo141.lt e142.symm)
      have S_COMPACT_STRINGS := S_COMPACT_STRINGS.ext E142
      have S_DEFAULTCAPACITY_EMPTY_ELEMENTDATA := S_DEFAULTCAPACITY_EMPTY_ELEMENTDATA.ext E142
      have E_bo141 := E_bo141.ext E142
      have V_bo141 := V_bo141.ext E142
      have F_b142_operands : Fld Z h142 b142 "com/example/bouncer/bouncer/cli/Arguments" "operands" "Ljava/util/List;" .null := D142 (Or.inr (hw _ (List.mem_of_getElem? (i := 68) rfl))) (ty := (.object "java/util/List")) (by decide)
      have F_b142_command : Fld Z h142 b142 "com/example/bouncer/bouncer/cli/Arguments" "command" "Ljava/lang/String;" .null := D142 (Or.inr (hw _ (List.mem_of_getElem? (i := 70) rfl))) (ty := (.object "java/lang/String")) (by decide)
      have F_b142_usage : Fld Z h142 b142 "com/example/bouncer/bouncer/cli/Arguments" "usage" "Ljava/lang/String;" .null := D142 (Or.inr (hw _ (List.mem_of_getElem? (i := 72) rfl))) (ty := (.object "java/lang/String")) (by decide)
      have F_b142_arguments : Fld Z h142 b142 "com/example/bouncer/bouncer/cli/Arguments" "arguments" "[Ljava/lang/String;" .null := D142 (Or.inr (hw _ (List.mem_of_getElem? (i := 83) rfl))) (ty := (.array (.object "java/lang/String"))) (by decide)
      have F_b142_maxOperands : Fld Z h142 b142 "com/example/bouncer/bouncer/cli/Arguments" "maxOperands" "I" (.int (0 : Int32)) := D142 (Or.inr (hw _ (List.mem_of_getElem? (i := 85) rfl))) (ty := .int) (by decide)
      have F_b142_next : Fld Z h142 b142 "com/example/bouncer/bouncer/cli/Arguments" "next" "I" (.int (0 : Int32)) := D142 (Or.inl (hw _ (List.mem_of_getElem? (i := 92) rfl))) (ty := .int) (by decide)
      refine C142.dup at_21 rfl rfl ?_
      refine C142.ldcStr (hw _ (List.mem_of_getElem? (i := 35) rfl)) (own_wS hw) 4 (by decide) (by decide) (by decide) (by decide) at_22 rfl (fun s143 T143 h143 C143 E143 => ?_)
      have S_COMPACT_STRINGS := S_COMPACT_STRINGS.ext E143
      have S_DEFAULTCAPACITY_EMPTY_ELEMENTDATA := S_DEFAULTCAPACITY_EMPTY_ELEMENTDATA.ext E143
      have E_bo141 := E_bo141.ext E143
      have V_bo141 := V_bo141.ext E143
      have E_b142 := E_b142.ext E143
      have F_b142_operands := F_b142_operands.ext E143
      have F_b142_command := F_b142_command.ext E143
      have F_b142_usage := F_b142_usage.ext E143
      have F_b142_arguments := F_b142_arguments.ext E143
      have F_b142_maxOperands := F_b142_maxOperands.ext E143
      have F_b142_next := F_b142_next.ext E143
      refine C143.ldcStr (hw _ (List.mem_of_getElem? (i := 38) rfl)) (own_wS hw) 4 (by decide) (by decide) (by decide) (by decide) at_24 rfl (fun s144 T144 h144 C144 E144 => ?_)
      have S_COMPACT_STRINGS := S_COMPACT_STRINGS.ext E144
      have S_DEFAULTCAPACITY_EMPTY_ELEMENTDATA := S_DEFAULTCAPACITY_EMPTY_ELEMENTDATA.ext E144
      have E_bo141 := E_bo141.ext E144
      have V_bo141 := V_bo141.ext E144
      have E_b142 := E_b142.ext E144
      have F_b142_operands := F_b142_operands.ext E144
      have F_b142_command := F_b142_command.ext E144
      have F_b142_usage := F_b142_usage.ext E144
      have F_b142_arguments := F_b142_arguments.ext E144
      have F_b142_maxOperands := F_b142_maxOperands.ext E144
      have F_b142_next := F_b142_next.ext E144
      refine C144.aload at_26 rfl rfl rfl ?_
      refine C144.iloadN at_28 rfl rfl ?_
      refine C144.callN rfl (hw _ (List.mem_of_getElem? (i := 39) rfl)) (hw _ (List.mem_of_getElem? (i := 40) rfl)) (hw _ (List.mem_of_getElem? (i := 34) rfl)) (hw _ (List.mem_of_getElem? (i := 41) rfl)) (by decide) (a := b142) (rm7 l Z a0 hw b142 s143 s144 bo141 i3 de .null .null .null .null (.int (0 : Int32)) ko141 (3 : Int32) vs141 .null h144 n0 C144.size E_b142 F_b142_operands F_b142_command F_b142_usage F_b142_arguments F_b142_maxOperands F_b142_next g_b142 S_DEFAULTCAPACITY_EMPTY_ELEMENTDATA E_bo141 V_bo141 (by decide)) (argsL := [(.ref s143), (.ref s144), (.ref bo141), (.int i3)]) pd7 rfl 1 (by decide) (by decide) (by decide) (by decide) (rest := [(.ref b142)]) rfl rfl (Nat.le_of_eq rfl) at_29 rfl (fun v145 T145 h145 C145 qq145 => ?_)
      obtain ⟨bc145, rfl, K145, p145_0, p145_1, p145_2, p145_3, p145_4, p145_5⟩ := qq145
      have S_COMPACT_STRINGS := own_stak S_COMPACT_STRINGS K145 (allS (own_plainE E_b142) (all0))
      have S_DEFAULTCAPACITY_EMPTY_ELEMENTDATA := own_stak S_DEFAULTCAPACITY_EMPTY_ELEMENTDATA K145 (allS (own_plainE E_b142) (all0))
      have E_bo141 := E_bo141.keep K145
      have V_bo141 := V_bo141.keep K145 (ninS ne_bo141_b142 nin0)
      have E_b142 := E_b142.keep K145
      have E_b142 := p145_0
      have F_b142_arguments := p145_1
      have F_b142_next := p145_2
      have E_bc145 := p145_3
      have V_bc145 := p145_4
      have g_bc145 := p145_5
      show Go p e below F n0 (fun v _ => v = some (.int (1 : Int32))) T145 (mkF m 32 #[.val (.int i0), .val (.int i1), .val (.int i2), .val (.int i3), .val (.int (3 : Int32)), .val (.int (1 : Int32)), .val (.ref bo141), .unset, .unset, .unset] [(.ref b142)])
      refine C145.astore at_32 rfl rfl (L' := #[.val (.int i0), .val (.int i1), .val (.int i2), .val (.int i3), .val (.int (3 : Int32)), .val (.int (1 : Int32)), .val (.ref bo141), .val (.ref b142), .unset, .unset]) rfl ?_
      refine C145.iconst (1 : Int32) at_34 rfl rfl ?_
      refine C145.istore at_35 rfl (L' := #[.val (.int i0), .val (.int i1), .val (.int i2), .val (.int i3), .val (.int (3 : Int32)), .val (.int (1 : Int32)), .val (.ref bo141), .val (.ref b142), .val (.int (1 : Int32)), .unset]) rfl ?_
      refine C145.iconst (0 : Int32) at_37 rfl rfl ?_
      refine C145.istore at_38 rfl (L' := #[.val (.int i0), .val (.int i1), .val (.int i2), .val (.int i3), .val (.int (3 : Int32)), .val (.int (1 : Int32)), .val (.ref bo141), .val (.ref b142), .val (.int (1 : Int32)), .val (.int (0 : Int32))]) rfl ?_
      refine C145.iload at_40 rfl rfl ?_
      refine C145.aload at_42 rfl rfl rfl ?_
      refine C145.callV (hw _ (List.mem_of_getElem? (i := 86) rfl)) (hw _ (List.mem_of_getElem? (i := 87) rfl)) (hw _ (List.mem_of_getElem? (i := 89) rfl)) (hw _ (List.mem_of_getElem? (i := 88) rfl)) (hw _ (List.mem_of_getElem? (i := 34) rfl)) (hw _ (List.mem_of_getElem? (i := 90) rfl)) E_b142 (by decide) (a := b142) (rm11 l Z a0 hw b142 bc145 (0 : Int32) ko141 (3 : Int32) vs141 .null h145 n0 C145.size F_b142_arguments F_b142_next V_bc145) (argsL := []) pd11 rfl 1 (by decide) (by decide) (by decide) (by decide) (rest := [(.int (1 : Int32))]) rfl rfl (Nat.le_of_eq rfl) at_44 rfl (fun v146 T146 h146 C146 qq146 => ?_)
      obtain ⟨rfl, hh146⟩ := qq146
      have hh146 := hh146.symm; subst hh146
      show Go p e below F n0 (fun v _ => v = some (.int (1 : Int32))) T146 (mkF m 47 #[.val (.int i0), .val (.int i1), .val (.int i2), .val (.int i3), .val (.int (3 : Int32)), .val (.int (1 : Int32)), .val (.ref bo141), .val (.ref b142), .val (.int (1 : Int32)), .val (.int (0 : Int32))] [(.int (f11 (0 : Int32) (3 : Int32))), (.int (1 : Int32))])
      refine C146.iload at_47 rfl rfl ?_
      refine C146.iload at_49 rfl rfl ?_
      refine C146.icmp_ge at_51 (by decide) (by decide : _ = 58) rfl (fun q => absurd (by decide) q) (fun _ => ?_)
      refine C146.iconst (1 : Int32) at_54 rfl rfl ?_
      refine C146.goto at_55 (by decide) (by decide : _ = 59) ?_
      refine C146.icmp_ne at_59 (by decide) (by decide : _ = 66) rfl (fun q => absurd (by decide) q) (fun _ => ?_)
      refine C146.iconst (1 : Int32) at_62 rfl rfl ?_
      refine C146.goto at_63 (by decide) (by decide : _ = 67) ?_
      refine C146.iand at_67 rfl ?_
      rw [own_and11]
      refine C146.istore at_68 rfl (L' := #[.val (.int i0), .val (.int i1), .val (.int i2), .val (.int i3), .val (.int (3 : Int32)), .val (.int (1 : Int32)), .val (.ref bo141), .val (.ref b142), .val (.int (1 : Int32)), .val (.int (0 : Int32))]) rfl ?_
      refine C146.iload at_70 rfl rfl ?_
      refine C146.iconst (1 : Int32) at_72 rfl rfl ?_
      refine C146.icmp_lt at_73 (by decide) (by decide : _ = 91) rfl (fun q => absurd q (by decide)) (fun _ => ?_)
      refine C146.iconst (0 : Int32) at_76 rfl rfl ?_
      refine C146.iload at_77 rfl rfl ?_
      refine C146.icmp_ge at_79 (by decide) (by decide : _ = 91) rfl (fun q => absurd (by decide) q) (fun _ => ?_)
      refine C146.aload at_82 rfl rfl rfl ?_
      refine C146.callV (hw _ (List.mem_of_getElem? (i := 93) rfl)) (hw _ (List.mem_of_getElem? (i := 94) rfl)) (hw _ (List.mem_of_getElem? (i := 96) rfl)) (hw _ (List.mem_of_getElem? (i := 95) rfl)) (hw _ (List.mem_of_getElem? (i := 34) rfl)) (hw _ (List.mem_of_getElem? (i := 97) rfl)) E_b142 (by decide) (a := b142) (rm12 l Z a0 hw b142 bc145 (0 : Int32) ko141 (3 : Int32) vs141 .null h145 n0 C146.size E_b142 F_b142_arguments F_b142_next V_bc145 E_bc145 g_b142 ⟨by decide, by decide⟩ hr) (argsL := []) pd12 rfl 0 (by decide) (by decide) (by decide) (by decide) (rest := []) rfl rfl (Nat.le_of_eq rfl) at_84 rfl (fun v147 T147 h147 C147 qq147 => ?_)
      obtain ⟨rfl, K147, p147_0, p147_1, p147_2⟩ := qq147
      have ne_bc145_b142 : bc145 ≠ b142 := (ne_exa E_bc145 E_b142 (by decide))
      have S_COMPACT_STRINGS := own_stak S_COMPACT_STRINGS K147 (allS (own_plainE E_b142) (all0))
      have S_DEFAULTCAPACITY_EMPTY_ELEMENTDATA := own_stak S_DEFAULTCAPACITY_EMPTY_ELEMENTDATA K147 (allS (own_plainE E_b142) (all0))
      have E_bo141 := E_bo141.keep K147
      have V_bo141 := V_bo141.keep K147 (ninS ne_bo141_b142 nin0)
      have E_b142 := E_b142.keep K147
      have E_bc145 := E_bc145.keep K147
      have V_bc145 := V_bc145.keep K147 (ninS ne_bc145_b142 nin0)
      have E_b142 := p147_0
      have F_b142_arguments := p147_1
      have F_b142_next := p147_2
      show Go p e below F n0 (fun v _ => v = some (.int (1 : Int32))) T147 (mkF m 87 #[.val (.int i0), .val (.int i1), .val (.int i2), .val (.int i3), .val (.int (3 : Int32)), .val (.int (1 : Int32)), .val (.ref bo141), .val (.ref b142), .val (.int (1 : Int32)), .val (.int (0 : Int32))] [(vs141.getD ((0 : Int32)).toNatClampNeg .null)])
      refine C147.pop at_87 rfl (XT.cat1 (hr _)) ?_
      refine C147.iconst (1 : Int32) at_88 rfl rfl ?_
      refine C147.istore at_89 rfl (L' := #[.val (.int i0), .val (.int i1), .val (.int i2), .val (.int i3), .val (.int (3 : Int32)), .val (.int (1 : Int32)), .val (.ref bo141), .val (.ref b142), .val (.int (1 : Int32)), .val (.int (1 : Int32))]) rfl ?_
      refine C147.iload at_91 rfl rfl ?_
      refine C147.aload at_93 rfl rfl rfl ?_
      refine C147.callV (hw _ (List.mem_of_getElem? (i := 86) rfl)) (hw _ (List.mem_of_getElem? (i := 87) rfl)) (hw _ (List.mem_of_getElem? (i := 89) rfl)) (hw _ (List.mem_of_getElem? (i := 88) rfl)) (hw _ (List.mem_of_getElem? (i := 34) rfl)) (hw _ (List.mem_of_getElem? (i := 90) rfl)) E_b142 (by decide) (a := b142) (rm11 l Z a0 hw b142 bc145 ((0 : Int32) + (1 : Int32)) ko141 (3 : Int32) vs141 .null h147 n0 C147.size F_b142_arguments F_b142_next V_bc145) (argsL := []) pd11 rfl 1 (by decide) (by decide) (by decide) (by decide) (rest := [(.int (1 : Int32))]) rfl rfl (Nat.le_of_eq rfl) at_95 rfl (fun v148 T148 h148 C148 qq148 => ?_)
      obtain ⟨rfl, hh148⟩ := qq148
      have hh148 := hh148.symm; subst hh148
      show Go p e below F n0 (fun v _ => v = some (.int (1 : Int32))) T148 (mkF m 98 #[.val (.int i0), .val (.int i1), .val (.int i2), .val (.int i3), .val (.int (3 : Int32)), .val (.int (1 : Int32)), .val (.ref bo141), .val (.ref b142), .val (.int (1 : Int32)), .val (.int (1 : Int32))] [(.int (f11 ((0 : Int32) + (1 : Int32)) (3 : Int32))), (.int (1 : Int32))])
      refine C148.iload at_98 rfl rfl ?_
      refine C148.iload at_100 rfl rfl ?_
      refine C148.icmp_ge at_102 (by decide) (by decide : _ = 109) rfl (fun q => absurd (by decide) q) (fun _ => ?_)
      refine C148.iconst (1 : Int32) at_105 rfl rfl ?_
      refine C148.goto at_106 (by decide) (by decide : _ = 110) ?_
      refine C148.icmp_ne at_110 (by decide) (by decide : _ = 117) rfl (fun q => absurd (by decide) q) (fun _ => ?_)
      refine C148.iconst (1 : Int32) at_113 rfl rfl ?_
      refine C148.goto at_114 (by decide) (by decide : _ = 118) ?_
      refine C148.iand at_118 rfl ?_
      rw [own_and11]
      refine C148.istore at_119 rfl (L' := #[.val (.int i0), .val (.int i1), .val (.int i2), .val (.int i3), .val (.int (3 : Int32)), .val (.int (1 : Int32)), .val (.ref bo141), .val (.ref b142), .val (.int (1 : Int32)), .val (.int (1 : Int32))]) rfl ?_
      refine C148.iload at_121 rfl rfl ?_
      refine C148.aload at_123 rfl rfl rfl ?_
      refine C148.callV (hw _ (List.mem_of_getElem? (i := 86) rfl)) (hw _ (List.mem_of_getElem? (i := 87) rfl)) (hw _ (List.mem_of_getElem? (i := 89) rfl)) (hw _ (List.mem_of_getElem? (i := 88) rfl)) (hw _ (List.mem_of_getElem? (i := 34) rfl)) (hw _ (List.mem_of_getElem? (i := 90) rfl)) E_b142 (by decide) (a := b142) (rm11 l Z a0 hw b142 bc145 ((0 : Int32) + (1 : Int32)) ko141 (3 : Int32) vs141 .null h147 n0 C148.size F_b142_arguments F_b142_next V_bc145) (argsL := []) pd11 rfl 1 (by decide) (by decide) (by decide) (by decide) (rest := [(.int (1 : Int32))]) rfl rfl (Nat.le_of_eq rfl) at_125 rfl (fun v149 T149 h149 C149 qq149 => ?_)
      obtain ⟨rfl, hh149⟩ := qq149
      have hh149 := hh149.symm; subst hh149
      show Go p e below F n0 (fun v _ => v = some (.int (1 : Int32))) T149 (mkF m 128 #[.val (.int i0), .val (.int i1), .val (.int i2), .val (.int i3), .val (.int (3 : Int32)), .val (.int (1 : Int32)), .val (.ref bo141), .val (.ref b142), .val (.int (1 : Int32)), .val (.int (1 : Int32))] [(.int (f11 ((0 : Int32) + (1 : Int32)) (3 : Int32))), (.int (1 : Int32))])
      refine C149.iload at_128 rfl rfl ?_
      refine C149.iload at_130 rfl rfl ?_
      refine C149.icmp_ge at_132 (by decide) (by decide : _ = 139) rfl (fun q => absurd (by decide) q) (fun _ => ?_)
      refine C149.iconst (1 : Int32) at_135 rfl rfl ?_
      refine C149.goto at_136 (by decide) (by decide : _ = 140) ?_
      refine C149.icmp_ne at_140 (by decide) (by decide : _ = 147) rfl (fun q => absurd (by decide) q) (fun _ => ?_)
      refine C149.iconst (1 : Int32) at_143 rfl rfl ?_
      refine C149.goto at_144 (by decide) (by decide : _ = 148) ?_
      refine C149.iand at_148 rfl ?_
      rw [own_and11]
      refine C149.istore at_149 rfl (L' := #[.val (.int i0), .val (.int i1), .val (.int i2), .val (.int i3), .val (.int (3 : Int32)), .val (.int (1 : Int32)), .val (.ref bo141), .val (.ref b142), .val (.int (1 : Int32)), .val (.int (1 : Int32))]) rfl ?_
      refine C149.iload at_151 rfl rfl ?_
      refine C149.iconst (2 : Int32) at_153 rfl rfl ?_
      refine C149.icmp_lt at_154 (by decide) (by decide : _ = 172) rfl (fun _ => ?_) (fun q => absurd (by decide) q)
      refine C149.iload at_172 rfl rfl ?_
      refine C149.aload at_174 rfl rfl rfl ?_
      refine C149.callV (hw _ (List.mem_of_getElem? (i := 86) rfl)) (hw _ (List.mem_of_getElem? (i := 87) rfl)) (hw _ (List.mem_of_getElem? (i := 89) rfl)) (hw _ (List.mem_of_getElem? (i := 88) rfl)) (hw _ (List.mem_of_getElem? (i := 34) rfl)) (hw _ (List.mem_of_getElem? (i := 90) rfl)) E_b142 (by decide) (a := b142) (rm11 l Z a0 hw b142 bc145 ((0 : Int32) + (1 : Int32)) ko141 (3 : Int32) vs141 .null h147 n0 C149.size F_b142_arguments F_b142_next V_bc145) (argsL := []) pd11 rfl 1 (by decide) (by decide) (by decide) (by decide) (rest := [(.int (1 : Int32))]) rfl rfl (Nat.le_of_eq rfl) at_176 rfl (fun v150 T150 h150 C150 qq150 => ?_)
      obtain ⟨rfl, hh150⟩ := qq150
      have hh150 := hh150.symm; subst hh150
      show Go p e below F n0 (fun v _ => v = some (.int (1 : Int32))) T150 (mkF m 179 #[.val (.int i0), .val (.int i1), .val (.int i2), .val (.int i3), .val (.int (3 : Int32)), .val (.int (1 : Int32)), .val (.ref bo141), .val (.ref b142), .val (.int (1 : Int32)), .val (.int (1 : Int32))] [(.int (f11 ((0 : Int32) + (1 : Int32)) (3 : Int32))), (.int (1 : Int32))])
      refine C150.iload at_179 rfl rfl ?_
      refine C150.iload at_181 rfl rfl ?_
      refine C150.icmp_ge at_183 (by decide) (by decide : _ = 190) rfl (fun q => absurd (by decide) q) (fun _ => ?_)
      refine C150.iconst (1 : Int32) at_186 rfl rfl ?_
      refine C150.goto at_187 (by decide) (by decide : _ = 191) ?_
      refine C150.icmp_ne at_191 (by decide) (by decide : _ = 198) rfl (fun q => absurd (by decide) q) (fun _ => ?_)
      refine C150.iconst (1 : Int32) at_194 rfl rfl ?_
      refine C150.goto at_195 (by decide) (by decide : _ = 199) ?_
      refine C150.iand at_199 rfl ?_
      rw [own_and11]
      refine C150.istore at_200 rfl (L' := #[.val (.int i0), .val (.int i1), .val (.int i2), .val (.int i3), .val (.int (3 : Int32)), .val (.int (1 : Int32)), .val (.ref bo141), .val (.ref b142), .val (.int (1 : Int32)), .val (.int (1 : Int32))]) rfl ?_
      refine C150.iload at_202 rfl rfl ?_
      refine C150.iconst (3 : Int32) at_204 rfl rfl ?_
      refine C150.icmp_lt at_205 (by decide) (by decide : _ = 223) rfl (fun _ => ?_) (fun q => absurd (by decide) q)
      refine C150.iload at_223 rfl rfl ?_
      refine C150.aload at_225 rfl rfl rfl ?_
      refine C150.callV (hw _ (List.mem_of_getElem? (i := 86) rfl)) (hw _ (List.mem_of_getElem? (i := 87) rfl)) (hw _ (List.mem_of_getElem? (i := 89) rfl)) (hw _ (List.mem_of_getElem? (i := 88) rfl)) (hw _ (List.mem_of_getElem? (i := 34) rfl)) (hw _ (List.mem_of_getElem? (i := 90) rfl)) E_b142 (by decide) (a := b142) (rm11 l Z a0 hw b142 bc145 ((0 : Int32) + (1 : Int32)) ko141 (3 : Int32) vs141 .null h147 n0 C150.size F_b142_arguments F_b142_next V_bc145) (argsL := []) pd11 rfl 1 (by decide) (by decide) (by decide) (by decide) (rest := [(.int (1 : Int32))]) rfl rfl (Nat.le_of_eq rfl) at_227 rfl (fun v151 T151 h151 C151 qq151 => ?_)
      obtain ⟨rfl, hh151⟩ := qq151
      have hh151 := hh151.symm; subst hh151
      show Go p e below F n0 (fun v _ => v = some (.int (1 : Int32))) T151 (mkF m 230 #[.val (.int i0), .val (.int i1), .val (.int i2), .val (.int i3), .val (.int (3 : Int32)), .val (.int (1 : Int32)), .val (.ref bo141), .val (.ref b142), .val (.int (1 : Int32)), .val (.int (1 : Int32))] [(.int (f11 ((0 : Int32) + (1 : Int32)) (3 : Int32))), (.int (1 : Int32))])
      refine C151.iload at_230 rfl rfl ?_
      refine C151.iload at_232 rfl rfl ?_
      refine C151.icmp_ge at_234 (by decide) (by decide : _ = 241) rfl (fun q => absurd (by decide) q) (fun _ => ?_)
      refine C151.iconst (1 : Int32) at_237 rfl rfl ?_
      refine C151.goto at_238 (by decide) (by decide : _ = 242) ?_
      refine C151.icmp_ne at_242 (by decide) (by decide : _ = 249) rfl (fun q => absurd (by decide) q) (fun _ => ?_)
      refine C151.iconst (1 : Int32) at_245 rfl rfl ?_
      refine C151.goto at_246 (by decide) (by decide : _ = 250) ?_
      refine C151.iand at_250 rfl ?_
      rw [own_and11]
      refine C151.istore at_251 rfl (L' := #[.val (.int i0), .val (.int i1), .val (.int i2), .val (.int i3), .val (.int (3 : Int32)), .val (.int (1 : Int32)), .val (.ref bo141), .val (.ref b142), .val (.int (1 : Int32)), .val (.int (1 : Int32))]) rfl ?_
      refine C151.iload at_253 rfl rfl ?_
      exact C151.retN (t := .boolean) at_255 rfl (by simp) (by decide) (by decide) (w := (1 : Int32)) rfl rfl
    · subst e
      refine C0.iload at_10 rfl rfl ?_
      refine C0.iloadN at_12 rfl rfl ?_
      refine C0.callS (hw _ (List.mem_of_getElem? (i := 0) rfl)) (hw _ (List.mem_of_getElem? (i := 1) rfl)) (hw _ (List.mem_of_getElem? (i := 2) rfl)) (hw _ (List.mem_of_getElem? (i := 3) rfl)) (by decide) (rm1 l Z a0 hw (3 : Int32) i2 cs h0 n0 C0.size S_COMPACT_STRINGS hcs (Or.inr (Or.inr (Or.inr rfl)))) (argsL := [(.int (3 : Int32)), (.int i2)]) pd1 rfl 0 (by decide) (by decide) (by decide) (by decide) (rest := []) rfl rfl (Nat.le_of_eq rfl) at_13 rfl (fun v152 T152 h152 C152 qq152 => ?_)
      obtain ⟨bo152, ko152, vs152, rfl, K152, p152_0, p152_1, p152_2, p152_3⟩ := qq152
      have K152 := ext_keep K152
      have S_COMPACT_STRINGS := S_COMPACT_STRINGS.ext K152
      have S_DEFAULTCAPACITY_EMPTY_ELEMENTDATA := S_DEFAULTCAPACITY_EMPTY_ELEMENTDATA.ext K152
      have E_bo152 := p152_0
      have V_bo152 := p152_1
      have hr := p152_2
      have g_bo152 := p152_3
      show Go p e below F n0 (fun v _ => v = some (.int (1 : Int32))) T152 (mkF m 16 #[.val (.int i0), .val (.int i1), .val (.int i2), .val (.int i3), .val (.int (3 : Int32)), .val (.int (2 : Int32)), .unset, .unset, .unset, .unset] [(.ref bo152)])
      refine C152.astore at_16 rfl rfl (L' := #[.val (.int i0), .val (.int i1), .val (.int i2), .val (.int i3), .val (.int (3 : Int32)), .val (.int (2 : Int32)), .val (.ref bo152), .unset, .unset, .unset]) rfl ?_
      refine C152.new (hw _ (List.mem_of_getElem? (i := 32) rfl)) (hw _ (List.mem_of_getElem? (i := 33) rfl)) (hw _ (List.mem_of_getElem? (i := 34) rfl)) at_18 rfl (by decide) (by decide) (fun T153 h153 b153 C153 e153 g_b153 E153 E_b153 D153 => ?_)
      have ne_bo152_b153 : bo152 ≠ b153 := Nat.ne_of_lt (Nat.lt_of_lt_of_eq E_bo152.lt e153.symm)
      have S_COMPACT_STRINGS := S_COMPACT_STRINGS.ext E153
      have S_DEFAULTCAPACITY_EMPTY_ELEMENTDATA := S_DEFAULTCAPACITY_EMPTY_ELEMENTDATA.ext E153
      have E_bo152 := E_bo152.ext E153
      have V_bo152 := V_bo152.ext E153
      have F_b153_operands : Fld Z h153 b153 "com/example/bouncer/bouncer/cli/Arguments" "operands" "Ljava/util/List;" .null := D153 (Or.inr (hw _ (List.mem_of_getElem? (i := 68) rfl))) (ty := (.object "java/util/List")) (by decide)
      have F_b153_command : Fld Z h153 b153 "com/example/bouncer/bouncer/cli/Arguments" "command" "Ljava/lang/String;" .null := D153 (Or.inr (hw _ (List.mem_of_getElem? (i := 70) rfl))) (ty := (.object "java/lang/String")) (by decide)
      have F_b153_usage : Fld Z h153 b153 "com/example/bouncer/bouncer/cli/Arguments" "usage" "Ljava/lang/String;" .null := D153 (Or.inr (hw _ (List.mem_of_getElem? (i := 72) rfl))) (ty := (.object "java/lang/String")) (by decide)
      have F_b153_arguments : Fld Z h153 b153 "com/example/bouncer/bouncer/cli/Arguments" "arguments" "[Ljava/lang/String;" .null := D153 (Or.inr (hw _ (List.mem_of_getElem? (i := 83) rfl))) (ty := (.array (.object "java/lang/String"))) (by decide)
      have F_b153_maxOperands : Fld Z h153 b153 "com/example/bouncer/bouncer/cli/Arguments" "maxOperands" "I" (.int (0 : Int32)) := D153 (Or.inr (hw _ (List.mem_of_getElem? (i := 85) rfl))) (ty := .int) (by decide)
      have F_b153_next : Fld Z h153 b153 "com/example/bouncer/bouncer/cli/Arguments" "next" "I" (.int (0 : Int32)) := D153 (Or.inl (hw _ (List.mem_of_getElem? (i := 92) rfl))) (ty := .int) (by decide)
      refine C153.dup at_21 rfl rfl ?_
      refine C153.ldcStr (hw _ (List.mem_of_getElem? (i := 35) rfl)) (own_wS hw) 4 (by decide) (by decide) (by decide) (by decide) at_22 rfl (fun s154 T154 h154 C154 E154 => ?_)
      have S_COMPACT_STRINGS := S_COMPACT_STRINGS.ext E154
      have S_DEFAULTCAPACITY_EMPTY_ELEMENTDATA := S_DEFAULTCAPACITY_EMPTY_ELEMENTDATA.ext E154
      have E_bo152 := E_bo152.ext E154
      have V_bo152 := V_bo152.ext E154
      have E_b153 := E_b153.ext E154
      have F_b153_operands := F_b153_operands.ext E154
      have F_b153_command := F_b153_command.ext E154
      have F_b153_usage := F_b153_usage.ext E154
      have F_b153_arguments := F_b153_arguments.ext E154
      have F_b153_maxOperands := F_b153_maxOperands.ext E154
      have F_b153_next := F_b153_next.ext E154
      refine C154.ldcStr (hw _ (List.mem_of_getElem? (i := 38) rfl)) (own_wS hw) 4 (by decide) (by decide) (by decide) (by decide) at_24 rfl (fun s155 T155 h155 C155 E155 => ?_)
      have S_COMPACT_STRINGS := S_COMPACT_STRINGS.ext E155
      have S_DEFAULTCAPACITY_EMPTY_ELEMENTDATA := S_DEFAULTCAPACITY_EMPTY_ELEMENTDATA.ext E155
      have E_bo152 := E_bo152.ext E155
      have V_bo152 := V_bo152.ext E155
      have E_b153 := E_b153.ext E155
      have F_b153_operands := F_b153_operands.ext E155
      have F_b153_command := F_b153_command.ext E155
      have F_b153_usage := F_b153_usage.ext E155
      have F_b153_arguments := F_b153_arguments.ext E155
      have F_b153_maxOperands := F_b153_maxOperands.ext E155
      have F_b153_next := F_b153_next.ext E155
      refine C155.aload at_26 rfl rfl rfl ?_
      refine C155.iloadN at_28 rfl rfl ?_
      refine C155.callN rfl (hw _ (List.mem_of_getElem? (i := 39) rfl)) (hw _ (List.mem_of_getElem? (i := 40) rfl)) (hw _ (List.mem_of_getElem? (i := 34) rfl)) (hw _ (List.mem_of_getElem? (i := 41) rfl)) (by decide) (a := b153) (rm7 l Z a0 hw b153 s154 s155 bo152 i3 de .null .null .null .null (.int (0 : Int32)) ko152 (3 : Int32) vs152 .null h155 n0 C155.size E_b153 F_b153_operands F_b153_command F_b153_usage F_b153_arguments F_b153_maxOperands F_b153_next g_b153 S_DEFAULTCAPACITY_EMPTY_ELEMENTDATA E_bo152 V_bo152 (by decide)) (argsL := [(.ref s154), (.ref s155), (.ref bo152), (.int i3)]) pd7 rfl 1 (by decide) (by decide) (by decide) (by decide) (rest := [(.ref b153)]) rfl rfl (Nat.le_of_eq rfl) at_29 rfl (fun v156 T156 h156 C156 qq156 => ?_)
      obtain ⟨bc156, rfl, K156, p156_0, p156_1, p156_2, p156_3, p156_4, p156_5⟩ := qq156
      have S_COMPACT_STRINGS := own_stak S_COMPACT_STRINGS K156 (allS (own_plainE E_b153) (all0))
      have S_DEFAULTCAPACITY_EMPTY_ELEMENTDATA := own_stak S_DEFAULTCAPACITY_EMPTY_ELEMENTDATA K156 (allS (own_plainE E_b153) (all0))
      have E_bo152 := E_bo152.keep K156
      have V_bo152 := V_bo152.keep K156 (ninS ne_bo152_b153 nin0)
      have E_b153 := E_b153.keep K156
      have E_b153 := p156_0
      have F_b153_arguments := p156_1
      have F_b153_next := p156_2
      have E_bc156 := p156_3
      have V_bc156 := p156_4
      have g_bc156 := p156_5
      show Go p e below F n0 (fun v _ => v = some (.int (1 : Int32))) T156 (mkF m 32 #[.val (.int i0), .val (.int i1), .val (.int i2), .val (.int i3), .val (.int (3 : Int32)), .val (.int (2 : Int32)), .val (.ref bo152), .unset, .unset, .unset] [(.ref b153)])
      refine C156.astore at_32 rfl rfl (L' := #[.val (.int i0), .val (.int i1), .val (.int i2), .val (.int i3), .val (.int (3 : Int32)), .val (.int (2 : Int32)), .val (.ref bo152), .val (.ref b153), .unset, .unset]) rfl ?_
      refine C156.iconst (1 : Int32) at_34 rfl rfl ?_
      refine C156.istore at_35 rfl (L' := #[.val (.int i0), .val (.int i1), .val (.int i2), .val (.int i3), .val (.int (3 : Int32)), .val (.int (2 : Int32)), .val (.ref bo152), .val (.ref b153), .val (.int (1 : Int32)), .unset]) rfl ?_
      refine C156.iconst (0 : Int32) at_37 rfl rfl ?_
      refine C156.istore at_38 rfl (L' := #[.val (.int i0), .val (.int i1), .val (.int i2), .val (.int i3), .val (.int (3 : Int32)), .val (.int (2 : Int32)), .val (.ref bo152), .val (.ref b153), .val (.int (1 : Int32)), .val (.int (0 : Int32))]) rfl ?_
      refine C156.iload at_40 rfl rfl ?_
      refine C156.aload at_42 rfl rfl rfl ?_
      refine C156.callV (hw _ (List.mem_of_getElem? (i := 86) rfl)) (hw _ (List.mem_of_getElem? (i := 87) rfl)) (hw _ (List.mem_of_getElem? (i := 89) rfl)) (hw _ (List.mem_of_getElem? (i := 88) rfl)) (hw _ (List.mem_of_getElem? (i := 34) rfl)) (hw _ (List.mem_of_getElem? (i := 90) rfl)) E_b153 (by decide) (a := b153) (rm11 l Z a0 hw b153 bc156 (0 : Int32) ko152 (3 : Int32) vs152 .null h156 n0 C156.size F_b153_arguments F_b153_next V_bc156) (argsL := []) pd11 rfl 1 (by decide) (by decide) (by decide) (by decide) (rest := [(.int (1 : Int32))]) rfl rfl (Nat.le_of_eq rfl) at_44 rfl (fun v157 T157 h157 C157 qq157 => ?_)
      obtain ⟨rfl, hh157⟩ := qq157
      have hh157 := hh157.symm; subst hh157
      show Go p e below F n0 (fun v _ => v = some (.int (1 : Int32))) T157 (mkF m 47 #[.val (.int i0), .val (.int i1), .val (.int i2), .val (.int i3), .val (.int (3 : Int32)), .val (.int (2 : Int32)), .val (.ref bo152), .val (.ref b153), .val (.int (1 : Int32)), .val (.int (0 : Int32))] [(.int (f11 (0 : Int32) (3 : Int32))), (.int (1 : Int32))])
      refine C157.iload at_47 rfl rfl ?_
      refine C157.iload at_49 rfl rfl ?_
      refine C157.icmp_ge at_51 (by decide) (by decide : _ = 58) rfl (fun q => absurd (by decide) q) (fun _ => ?_)
      refine C157.iconst (1 : Int32) at_54 rfl rfl ?_
      refine C157.goto at_55 (by decide) (by decide : _ = 59) ?_
      refine C157.icmp_ne at_59 (by decide) (by decide : _ = 66) rfl (fun q => absurd (by decide) q) (fun _ => ?_)
      refine C157.iconst (1 : Int32) at_62 rfl rfl ?_
      refine C157.goto at_63 (by decide) (by decide : _ = 67) ?_
      refine C157.iand at_67 rfl ?_
      rw [own_and11]
      refine C157.istore at_68 rfl (L' := #[.val (.int i0), .val (.int i1), .val (.int i2), .val (.int i3), .val (.int (3 : Int32)), .val (.int (2 : Int32)), .val (.ref bo152), .val (.ref b153), .val (.int (1 : Int32)), .val (.int (0 : Int32))]) rfl ?_
      refine C157.iload at_70 rfl rfl ?_
      refine C157.iconst (1 : Int32) at_72 rfl rfl ?_
      refine C157.icmp_lt at_73 (by decide) (by decide : _ = 91) rfl (fun q => absurd q (by decide)) (fun _ => ?_)
      refine C157.iconst (0 : Int32) at_76 rfl rfl ?_
      refine C157.iload at_77 rfl rfl ?_
      refine C157.icmp_ge at_79 (by decide) (by decide : _ = 91) rfl (fun q => absurd (by decide) q) (fun _ => ?_)
      refine C157.aload at_82 rfl rfl rfl ?_
      refine C157.callV (hw _ (List.mem_of_getElem? (i := 93) rfl)) (hw _ (List.mem_of_getElem? (i := 94) rfl)) (hw _ (List.mem_of_getElem? (i := 96) rfl)) (hw _ (List.mem_of_getElem? (i := 95) rfl)) (hw _ (List.mem_of_getElem? (i := 34) rfl)) (hw _ (List.mem_of_getElem? (i := 97) rfl)) E_b153 (by decide) (a := b153) (rm12 l Z a0 hw b153 bc156 (0 : Int32) ko152 (3 : Int32) vs152 .null h156 n0 C157.size E_b153 F_b153_arguments F_b153_next V_bc156 E_bc156 g_b153 ⟨by decide, by decide⟩ hr) (argsL := []) pd12 rfl 0 (by decide) (by decide) (by decide) (by decide) (rest := []) rfl rfl (Nat.le_of_eq rfl) at_84 rfl (fun v158 T158 h158 C158 qq158 => ?_)
      obtain ⟨rfl, K158, p158_0, p158_1, p158_2⟩ := qq158
      have ne_bc156_b153 : bc156 ≠ b153 := (ne_exa E_bc156 E_b153 (by decide))
      have S_COMPACT_STRINGS := own_stak S_COMPACT_STRINGS K158 (allS (own_plainE E_b153) (all0))
      have S_DEFAULTCAPACITY_EMPTY_ELEMENTDATA := own_stak S_DEFAULTCAPACITY_EMPTY_ELEMENTDATA K158 (allS (own_plainE E_b153) (all0))
      have E_bo152 := E_bo152.keep K158
      have V_bo152 := V_bo152.keep K158 (ninS ne_bo152_b153 nin0)
      have E_b153 := E_b153.keep K158
      have E_bc156 := E_bc156.keep K158
      have V_bc156 := V_bc156.keep K158 (ninS ne_bc156_b153 nin0)
      have E_b153 := p158_0
      have F_b153_arguments := p158_1
      have F_b153_next := p158_2
      show Go p e below F n0 (fun v _ => v = some (.int (1 : Int32))) T158 (mkF m 87 #[.val (.int i0), .val (.int i1), .val (.int i2), .val (.int i3), .val (.int (3 : Int32)), .val (.int (2 : Int32)), .val (.ref bo152), .val (.ref b153), .val (.int (1 : Int32)), .val (.int (0 : Int32))] [(vs152.getD ((0 : Int32)).toNatClampNeg .null)])
      refine C158.pop at_87 rfl (XT.cat1 (hr _)) ?_
      refine C158.iconst (1 : Int32) at_88 rfl rfl ?_
      refine C158.istore at_89 rfl (L' := #[.val (.int i0), .val (.int i1), .val (.int i2), .val (.int i3), .val (.int (3 : Int32)), .val (.int (2 : Int32)), .val (.ref bo152), .val (.ref b153), .val (.int (1 : Int32)), .val (.int (1 : Int32))]) rfl ?_
      refine C158.iload at_91 rfl rfl ?_
      refine C158.aload at_93 rfl rfl rfl ?_
      refine C158.callV (hw _ (List.mem_of_getElem? (i := 86) rfl)) (hw _ (List.mem_of_getElem? (i := 87) rfl)) (hw _ (List.mem_of_getElem? (i := 89) rfl)) (hw _ (List.mem_of_getElem? (i := 88) rfl)) (hw _ (List.mem_of_getElem? (i := 34) rfl)) (hw _ (List.mem_of_getElem? (i := 90) rfl)) E_b153 (by decide) (a := b153) (rm11 l Z a0 hw b153 bc156 ((0 : Int32) + (1 : Int32)) ko152 (3 : Int32) vs152 .null h158 n0 C158.size F_b153_arguments F_b153_next V_bc156) (argsL := []) pd11 rfl 1 (by decide) (by decide) (by decide) (by decide) (rest := [(.int (1 : Int32))]) rfl rfl (Nat.le_of_eq rfl) at_95 rfl (fun v159 T159 h159 C159 qq159 => ?_)
      obtain ⟨rfl, hh159⟩ := qq159
      have hh159 := hh159.symm; subst hh159
      show Go p e below F n0 (fun v _ => v = some (.int (1 : Int32))) T159 (mkF m 98 #[.val (.int i0), .val (.int i1), .val (.int i2), .val (.int i3), .val (.int (3 : Int32)), .val (.int (2 : Int32)), .val (.ref bo152), .val (.ref b153), .val (.int (1 : Int32)), .val (.int (1 : Int32))] [(.int (f11 ((0 : Int32) + (1 : Int32)) (3 : Int32))), (.int (1 : Int32))])
      refine C159.iload at_98 rfl rfl ?_
      refine C159.iload at_100 rfl rfl ?_
      refine C159.icmp_ge at_102 (by decide) (by decide : _ = 109) rfl (fun q => absurd (by decide) q) (fun _ => ?_)
      refine C159.iconst (1 : Int32) at_105 rfl rfl ?_
      refine C159.goto at_106 (by decide) (by decide : _ = 110) ?_
      refine C159.icmp_ne at_110 (by decide) (by decide : _ = 117) rfl (fun q => absurd (by decide) q) (fun _ => ?_)
      refine C159.iconst (1 : Int32) at_113 rfl rfl ?_
      refine C159.goto at_114 (by decide) (by decide : _ = 118) ?_
      refine C159.iand at_118 rfl ?_
      rw [own_and11]
      refine C159.istore at_119 rfl (L' := #[.val (.int i0), .val (.int i1), .val (.int i2), .val (.int i3), .val (.int (3 : Int32)), .val (.int (2 : Int32)), .val (.ref bo152), .val (.ref b153), .val (.int (1 : Int32)), .val (.int (1 : Int32))]) rfl ?_
      refine C159.iload at_121 rfl rfl ?_
      refine C159.aload at_123 rfl rfl rfl ?_
      refine C159.callV (hw _ (List.mem_of_getElem? (i := 86) rfl)) (hw _ (List.mem_of_getElem? (i := 87) rfl)) (hw _ (List.mem_of_getElem? (i := 89) rfl)) (hw _ (List.mem_of_getElem? (i := 88) rfl)) (hw _ (List.mem_of_getElem? (i := 34) rfl)) (hw _ (List.mem_of_getElem? (i := 90) rfl)) E_b153 (by decide) (a := b153) (rm11 l Z a0 hw b153 bc156 ((0 : Int32) + (1 : Int32)) ko152 (3 : Int32) vs152 .null h158 n0 C159.size F_b153_arguments F_b153_next V_bc156) (argsL := []) pd11 rfl 1 (by decide) (by decide) (by decide) (by decide) (rest := [(.int (1 : Int32))]) rfl rfl (Nat.le_of_eq rfl) at_125 rfl (fun v160 T160 h160 C160 qq160 => ?_)
      obtain ⟨rfl, hh160⟩ := qq160
      have hh160 := hh160.symm; subst hh160
      show Go p e below F n0 (fun v _ => v = some (.int (1 : Int32))) T160 (mkF m 128 #[.val (.int i0), .val (.int i1), .val (.int i2), .val (.int i3), .val (.int (3 : Int32)), .val (.int (2 : Int32)), .val (.ref bo152), .val (.ref b153), .val (.int (1 : Int32)), .val (.int (1 : Int32))] [(.int (f11 ((0 : Int32) + (1 : Int32)) (3 : Int32))), (.int (1 : Int32))])
      refine C160.iload at_128 rfl rfl ?_
      refine C160.iload at_130 rfl rfl ?_
      refine C160.icmp_ge at_132 (by decide) (by decide : _ = 139) rfl (fun q => absurd (by decide) q) (fun _ => ?_)
      refine C160.iconst (1 : Int32) at_135 rfl rfl ?_
      refine C160.goto at_136 (by decide) (by decide : _ = 140) ?_
      refine C160.icmp_ne at_140 (by decide) (by decide : _ = 147) rfl (fun q => absurd (by decide) q) (fun _ => ?_)
      refine C160.iconst (1 : Int32) at_143 rfl rfl ?_
      refine C160.goto at_144 (by decide) (by decide : _ = 148) ?_
      refine C160.iand at_148 rfl ?_
      rw [own_and11]
      refine C160.istore at_149 rfl (L' := #[.val (.int i0), .val (.int i1), .val (.int i2), .val (.int i3), .val (.int (3 : Int32)), .val (.int (2 : Int32)), .val (.ref bo152), .val (.ref b153), .val (.int (1 : Int32)), .val (.int (1 : Int32))]) rfl ?_
      refine C160.iload at_151 rfl rfl ?_
      refine C160.iconst (2 : Int32) at_153 rfl rfl ?_
      refine C160.icmp_lt at_154 (by decide) (by decide : _ = 172) rfl (fun q => absurd q (by decide)) (fun _ => ?_)
      refine C160.iconst (1 : Int32) at_157 rfl rfl ?_
      refine C160.iload at_158 rfl rfl ?_
      refine C160.icmp_ge at_160 (by decide) (by decide : _ = 172) rfl (fun q => absurd (by decide) q) (fun _ => ?_)
      refine C160.aload at_163 rfl rfl rfl ?_
      refine C160.callV (hw _ (List.mem_of_getElem? (i := 93) rfl)) (hw _ (List.mem_of_getElem? (i := 94) rfl)) (hw _ (List.mem_of_getElem? (i := 96) rfl)) (hw _ (List.mem_of_getElem? (i := 95) rfl)) (hw _ (List.mem_of_getElem? (i := 34) rfl)) (hw _ (List.mem_of_getElem? (i := 97) rfl)) E_b153 (by decide) (a := b153) (rm12 l Z a0 hw b153 bc156 ((0 : Int32) + (1 : Int32)) ko152 (3 : Int32) vs152 .null h158 n0 C160.size E_b153 F_b153_arguments F_b153_next V_bc156 E_bc156 g_b153 ⟨by decide, by decide⟩ hr) (argsL := []) pd12 rfl 0 (by decide) (by decide) (by decide) (by decide) (rest := []) rfl rfl (Nat.le_of_eq rfl) at_165 rfl (fun v161 T161 h161 C161 qq161 => ?_)
      obtain ⟨rfl, K161, p161_0, p161_1, p161_2⟩ := qq161
      have S_COMPACT_STRINGS := own_stak S_COMPACT_STRINGS K161 (allS (own_plainE E_b153) (all0))
      have S_DEFAULTCAPACITY_EMPTY_ELEMENTDATA := own_stak S_DEFAULTCAPACITY_EMPTY_ELEMENTDATA K161 (allS (own_plainE E_b153) (all0))
      have E_bo152 := E_bo152.keep K161
      have V_bo152 := V_bo152.keep K161 (ninS ne_bo152_b153 nin0)
      have E_b153 := E_b153.keep K161
      have E_bc156 := E_bc156.keep K161
      have V_bc156 := V_bc156.keep K161 (ninS ne_bc156_b153 nin0)
      have E_b153 := p161_0
      have F_b153_arguments := p161_1
      have F_b153_next := p161_2
      show Go p e below F n0 (fun v _ => v = some (.int (1 : Int32))) T161 (mkF m 168 #[.val (.int i0), .val (.int i1), .val (.int i2), .val (.int i3), .val (.int (3 : Int32)), .val (.int (2 : Int32)), .val (.ref bo152), .val (.ref b153), .val (.int (1 : Int32)), .val (.int (1 : Int32))] [(vs152.getD (((0 : Int32) + (1 : Int32))).toNatClampNeg .null)])
      refine C161.pop at_168 rfl (XT.cat1 (hr _)) ?_
      refine C161.iconst (2 : Int32) at_169 rfl rfl ?_
      refine C161.istore at_170 rfl (L' := #[.val (.int i0), .val (.int i1), .val (.int i2), .val (.int i3), .val (.int (3 : Int32)), .val (.int (2 : Int32)), .val (.ref bo152), .val (.ref b153), .val (.int (1 : Int32)), .val (.int (2 : Int32))]) rfl ?_
      refine C161.iload at_172 rfl rfl ?_
      refine C161.aload at_174 rfl rfl rfl ?_
      refine C161.callV (hw _ (List.mem_of_getElem? (i := 86) rfl)) (hw _ (List.mem_of_getElem? (i := 87) rfl)) (hw _ (List.mem_of_getElem? (i := 89) rfl)) (hw _ (List.mem_of_getElem? (i := 88) rfl)) (hw _ (List.mem_of_getElem? (i := 34) rfl)) (hw _ (List.mem_of_getElem? (i := 90) rfl)) E_b153 (by decide) (a := b153) (rm11 l Z a0 hw b153 bc156 (((0 : Int32) + (1 : Int32)) + (1 : Int32)) ko152 (3 : Int32) vs152 .null h161 n0 C161.size F_b153_arguments F_b153_next V_bc156) (argsL := []) pd11 rfl 1 (by decide) (by decide) (by decide) (by decide) (rest := [(.int (1 : Int32))]) rfl rfl (Nat.le_of_eq rfl) at_176 rfl (fun v162 T162 h162 C162 qq162 => ?_)
      obtain ⟨rfl, hh162⟩ := qq162
      have hh162 := hh162.symm; subst hh162
      show Go p e below F n0 (fun v _ => v = some (.int (1 : Int32))) T162 (mkF m 179 #[.val (.int i0), .val (.int i1), .val (.int i2), .val (.int i3), .val (.int (3 : Int32)), .val (.int (2 : Int32)), .val (.ref bo152), .val (.ref b153), .val (.int (1 : Int32)), .val (.int (2 : Int32))] [(.int (f11 (((0 : Int32) + (1 : Int32)) + (1 : Int32)) (3 : Int32))), (.int (1 : Int32))])
      refine C162.iload at_179 rfl rfl ?_
      refine C162.iload at_181 rfl rfl ?_
      refine C162.icmp_ge at_183 (by decide) (by decide : _ = 190) rfl (fun q => absurd (by decide) q) (fun _ => ?_)
      refine C162.iconst (1 : Int32) at_186 rfl rfl ?_
      refine C162.goto at_187 (by decide) (by decide : _ = 191) ?_
      refine C162.icmp_ne at_191 (by decide) (by decide : _ = 198) rfl (fun q => absurd (by decide) q) (fun _ => ?_)
      refine C162.iconst (1 : Int32) at_194 rfl rfl ?_
      refine C162.goto at_195 (by decide) (by decide : _ = 199) ?_
      refine C162.iand at_199 rfl ?_
      rw [own_and11]
      refine C162.istore at_200 rfl (L' := #[.val (.int i0), .val (.int i1), .val (.int i2), .val (.int i3), .val (.int (3 : Int32)), .val (.int (2 : Int32)), .val (.ref bo152), .val (.ref b153), .val (.int (1 : Int32)), .val (.int (2 : Int32))]) rfl ?_
      refine C162.iload at_202 rfl rfl ?_
      refine C162.iconst (3 : Int32) at_204 rfl rfl ?_
      refine C162.icmp_lt at_205 (by decide) (by decide : _ = 223) rfl (fun _ => ?_) (fun q => absurd (by decide) q)
      refine C162.iload at_223 rfl rfl ?_
      refine C162.aload at_225 rfl rfl rfl ?_
      refine C162.callV (hw _ (List.mem_of_getElem? (i := 86) rfl)) (hw _ (List.mem_of_getElem? (i := 87) rfl)) (hw _ (List.mem_of_getElem? (i := 89) rfl)) (hw _ (List.mem_of_getElem? (i := 88) rfl)) (hw _ (List.mem_of_getElem? (i := 34) rfl)) (hw _ (List.mem_of_getElem? (i := 90) rfl)) E_b153 (by decide) (a := b153) (rm11 l Z a0 hw b153 bc156 (((0 : Int32) + (1 : Int32)) + (1 : Int32)) ko152 (3 : Int32) vs152 .null h161 n0 C162.size F_b153_arguments F_b153_next V_bc156) (argsL := []) pd11 rfl 1 (by decide) (by decide) (by decide) (by decide) (rest := [(.int (1 : Int32))]) rfl rfl (Nat.le_of_eq rfl) at_227 rfl (fun v163 T163 h163 C163 qq163 => ?_)
      obtain ⟨rfl, hh163⟩ := qq163
      have hh163 := hh163.symm; subst hh163
      show Go p e below F n0 (fun v _ => v = some (.int (1 : Int32))) T163 (mkF m 230 #[.val (.int i0), .val (.int i1), .val (.int i2), .val (.int i3), .val (.int (3 : Int32)), .val (.int (2 : Int32)), .val (.ref bo152), .val (.ref b153), .val (.int (1 : Int32)), .val (.int (2 : Int32))] [(.int (f11 (((0 : Int32) + (1 : Int32)) + (1 : Int32)) (3 : Int32))), (.int (1 : Int32))])
      refine C163.iload at_230 rfl rfl ?_
      refine C163.iload at_232 rfl rfl ?_
      refine C163.icmp_ge at_234 (by decide) (by decide : _ = 241) rfl (fun q => absurd (by decide) q) (fun _ => ?_)
      refine C163.iconst (1 : Int32) at_237 rfl rfl ?_
      refine C163.goto at_238 (by decide) (by decide : _ = 242) ?_
      refine C163.icmp_ne at_242 (by decide) (by decide : _ = 249) rfl (fun q => absurd (by decide) q) (fun _ => ?_)
      refine C163.iconst (1 : Int32) at_245 rfl rfl ?_
      refine C163.goto at_246 (by decide) (by decide : _ = 250) ?_
      refine C163.iand at_250 rfl ?_
      rw [own_and11]
      refine C163.istore at_251 rfl (L' := #[.val (.int i0), .val (.int i1), .val (.int i2), .val (.int i3), .val (.int (3 : Int32)), .val (.int (2 : Int32)), .val (.ref bo152), .val (.ref b153), .val (.int (1 : Int32)), .val (.int (2 : Int32))]) rfl ?_
      refine C163.iload at_253 rfl rfl ?_
      exact C163.retN (t := .boolean) at_255 rfl (by simp) (by decide) (by decide) (w := (1 : Int32)) rfl rfl
    · subst e
      refine C0.iload at_10 rfl rfl ?_
      refine C0.iloadN at_12 rfl rfl ?_
      refine C0.callS (hw _ (List.mem_of_getElem? (i := 0) rfl)) (hw _ (List.mem_of_getElem? (i := 1) rfl)) (hw _ (List.mem_of_getElem? (i := 2) rfl)) (hw _ (List.mem_of_getElem? (i := 3) rfl)) (by decide) (rm1 l Z a0 hw (3 : Int32) i2 cs h0 n0 C0.size S_COMPACT_STRINGS hcs (Or.inr (Or.inr (Or.inr rfl)))) (argsL := [(.int (3 : Int32)), (.int i2)]) pd1 rfl 0 (by decide) (by decide) (by decide) (by decide) (rest := []) rfl rfl (Nat.le_of_eq rfl) at_13 rfl (fun v164 T164 h164 C164 qq164 => ?_)
      obtain ⟨bo164, ko164, vs164, rfl, K164, p164_0, p164_1, p164_2, p164_3⟩ := qq164
      have K164 := ext_keep K164
      have S_COMPACT_STRINGS := S_COMPACT_STRINGS.ext K164
      have S_DEFAULTCAPACITY_EMPTY_ELEMENTDATA := S_DEFAULTCAPACITY_EMPTY_ELEMENTDATA.ext K164
      have E_bo164 := p164_0
      have V_bo164 := p164_1
      have hr := p164_2
      have g_bo164 := p164_3
      show Go p e below F n0 (fun v _ => v = some (.int (1 : Int32))) T164 (mkF m 16 #[.val (.int i0), .val (.int i1), .val (.int i2), .val (.int i3), .val (.int (3 : Int32)), .val (.int (3 : Int32)), .unset, .unset, .unset, .unset] [(.ref bo164)])
      refine C164.astore at_16 rfl rfl (L' := #[.val (.int i0), .val (.int i1), .val (.int i2), .val (.int i3), .val (.int (3 : Int32)), .val (.int (3 : Int32)), .val (.ref bo164), .unset, .unset, .unset]) rfl ?_
      refine C164.new (hw _ (List.mem_of_getElem? (i := 32) rfl)) (hw _ (List.mem_of_getElem? (i := 33) rfl)) (hw _ (List.mem_of_getElem? (i := 34) rfl)) at_18 rfl (by decide) (by decide) (fun T165 h165 b165 C165 e165 g_b165 E165 E_b165 D165 => ?_)
      have ne_bo164_b165 : bo164 ≠ b165 := Nat.ne_of_lt (Nat.lt_of_lt_of_eq E_bo164.lt e165.symm)
      have S_COMPACT_STRINGS := S_COMPACT_STRINGS.ext E165
      have S_DEFAULTCAPACITY_EMPTY_ELEMENTDATA := S_DEFAULTCAPACITY_EMPTY_ELEMENTDATA.ext E165
      have E_bo164 := E_bo164.ext E165
      have V_bo164 := V_bo164.ext E165
      have F_b165_operands : Fld Z h165 b165 "com/example/bouncer/bouncer/cli/Arguments" "operands" "Ljava/util/List;" .null := D165 (Or.inr (hw _ (List.mem_of_getElem? (i := 68) rfl))) (ty := (.object "java/util/List")) (by decide)
      have F_b165_command : Fld Z h165 b165 "com/example/bouncer/bouncer/cli/Arguments" "command" "Ljava/lang/String;" .null := D165 (Or.inr (hw _ (List.mem_of_getElem? (i := 70) rfl))) (ty := (.object "java/lang/String")) (by decide)
      have F_b165_usage : Fld Z h165 b165 "com/example/bouncer/bouncer/cli/Arguments" "usage" "Ljava/lang/String;" .null := D165 (Or.inr (hw _ (List.mem_of_getElem? (i := 72) rfl))) (ty := (.object "java/lang/String")) (by decide)
      have F_b165_arguments : Fld Z h165 b165 "com/example/bouncer/bouncer/cli/Arguments" "arguments" "[Ljava/lang/String;" .null := D165 (Or.inr (hw _ (List.mem_of_getElem? (i := 83) rfl))) (ty := (.array (.object "java/lang/String"))) (by decide)
      have F_b165_maxOperands : Fld Z h165 b165 "com/example/bouncer/bouncer/cli/Arguments" "maxOperands" "I" (.int (0 : Int32)) := D165 (Or.inr (hw _ (List.mem_of_getElem? (i := 85) rfl))) (ty := .int) (by decide)
      have F_b165_next : Fld Z h165 b165 "com/example/bouncer/bouncer/cli/Arguments" "next" "I" (.int (0 : Int32)) := D165 (Or.inl (hw _ (List.mem_of_getElem? (i := 92) rfl))) (ty := .int) (by decide)
      refine C165.dup at_21 rfl rfl ?_
      refine C165.ldcStr (hw _ (List.mem_of_getElem? (i := 35) rfl)) (own_wS hw) 4 (by decide) (by decide) (by decide) (by decide) at_22 rfl (fun s166 T166 h166 C166 E166 => ?_)
      have S_COMPACT_STRINGS := S_COMPACT_STRINGS.ext E166
      have S_DEFAULTCAPACITY_EMPTY_ELEMENTDATA := S_DEFAULTCAPACITY_EMPTY_ELEMENTDATA.ext E166
      have E_bo164 := E_bo164.ext E166
      have V_bo164 := V_bo164.ext E166
      have E_b165 := E_b165.ext E166
      have F_b165_operands := F_b165_operands.ext E166
      have F_b165_command := F_b165_command.ext E166
      have F_b165_usage := F_b165_usage.ext E166
      have F_b165_arguments := F_b165_arguments.ext E166
      have F_b165_maxOperands := F_b165_maxOperands.ext E166
      have F_b165_next := F_b165_next.ext E166
      refine C166.ldcStr (hw _ (List.mem_of_getElem? (i := 38) rfl)) (own_wS hw) 4 (by decide) (by decide) (by decide) (by decide) at_24 rfl (fun s167 T167 h167 C167 E167 => ?_)
      have S_COMPACT_STRINGS := S_COMPACT_STRINGS.ext E167
      have S_DEFAULTCAPACITY_EMPTY_ELEMENTDATA := S_DEFAULTCAPACITY_EMPTY_ELEMENTDATA.ext E167
      have E_bo164 := E_bo164.ext E167
      have V_bo164 := V_bo164.ext E167
      have E_b165 := E_b165.ext E167
      have F_b165_operands := F_b165_operands.ext E167
      have F_b165_command := F_b165_command.ext E167
      have F_b165_usage := F_b165_usage.ext E167
      have F_b165_arguments := F_b165_arguments.ext E167
      have F_b165_maxOperands := F_b165_maxOperands.ext E167
      have F_b165_next := F_b165_next.ext E167
      refine C167.aload at_26 rfl rfl rfl ?_
      refine C167.iloadN at_28 rfl rfl ?_
      refine C167.callN rfl (hw _ (List.mem_of_getElem? (i := 39) rfl)) (hw _ (List.mem_of_getElem? (i := 40) rfl)) (hw _ (List.mem_of_getElem? (i := 34) rfl)) (hw _ (List.mem_of_getElem? (i := 41) rfl)) (by decide) (a := b165) (rm7 l Z a0 hw b165 s166 s167 bo164 i3 de .null .null .null .null (.int (0 : Int32)) ko164 (3 : Int32) vs164 .null h167 n0 C167.size E_b165 F_b165_operands F_b165_command F_b165_usage F_b165_arguments F_b165_maxOperands F_b165_next g_b165 S_DEFAULTCAPACITY_EMPTY_ELEMENTDATA E_bo164 V_bo164 (by decide)) (argsL := [(.ref s166), (.ref s167), (.ref bo164), (.int i3)]) pd7 rfl 1 (by decide) (by decide) (by decide) (by decide) (rest := [(.ref b165)]) rfl rfl (Nat.le_of_eq rfl) at_29 rfl (fun v168 T168 h168 C168 qq168 => ?_)
      obtain ⟨bc168, rfl, K168, p168_0, p168_1, p168_2, p168_3, p168_4, p168_5⟩ := qq168
      have S_COMPACT_STRINGS := own_stak S_COMPACT_STRINGS K168 (allS (own_plainE E_b165) (all0))
      have S_DEFAULTCAPACITY_EMPTY_ELEMENTDATA := own_stak S_DEFAULTCAPACITY_EMPTY_ELEMENTDATA K168 (allS (own_plainE E_b165) (all0))
      have E_bo164 := E_bo164.keep K168
      have V_bo164 := V_bo164.keep K168 (ninS ne_bo164_b165 nin0)
      have E_b165 := E_b165.keep K168
      have E_b165 := p168_0
      have F_b165_arguments := p168_1
      have F_b165_next := p168_2
      have E_bc168 := p168_3
      have V_bc168 := p168_4
      have g_bc168 := p168_5
      show Go p e below F n0 (fun v _ => v = some (.int (1 : Int32))) T168 (mkF m 32 #[.val (.int i0), .val (.int i1), .val (.int i2), .val (.int i3), .val (.int (3 : Int32)), .val (.int (3 : Int32)), .val (.ref bo164), .unset, .unset, .unset] [(.ref b165)])
      refine C168.astore at_32 rfl rfl (L' := #[.val (.int i0), .val (.int i1), .val (.int i2), .val (.int i3), .val (.int (3 : Int32)), .val (.int (3 : Int32)), .val (.ref bo164), .val (.ref b165), .unset, .unset]) rfl ?_
      refine C168.iconst (1 : Int32) at_34 rfl rfl ?_
      refine C168.istore at_35 rfl (L' := #[.val (.int i0), .val (.int i1), .val (.int i2), .val (.int i3), .val (.int (3 : Int32)), .val (.int (3 : Int32)), .val (.ref bo164), .val (.ref b165), .val (.int (1 : Int32)), .unset]) rfl ?_
      refine C168.iconst (0 : Int32) at_37 rfl rfl ?_
      refine C168.istore at_38 rfl (L' := #[.val (.int i0), .val (.int i1), .val (.int i2), .val (.int i3), .val (.int (3 : Int32)), .val (.int (3 : Int32)), .val (.ref bo164), .val (.ref b165), .val (.int (1 : Int32)), .val (.int (0 : Int32))]) rfl ?_
      refine C168.iload at_40 rfl rfl ?_
      refine C168.aload at_42 rfl rfl rfl ?_
      refine C168.callV (hw _ (List.mem_of_getElem? (i := 86) rfl)) (hw _ (List.mem_of_getElem? (i := 87) rfl)) (hw _ (List.mem_of_getElem? (i := 89) rfl)) (hw _ (List.mem_of_getElem? (i := 88) rfl)) (hw _ (List.mem_of_getElem? (i := 34) rfl)) (hw _ (List.mem_of_getElem? (i := 90) rfl)) E_b165 (by decide) (a := b165) (rm11 l Z a0 hw b165 bc168 (0 : Int32) ko164 (3 : Int32) vs164 .null h168 n0 C168.size F_b165_arguments F_b165_next V_bc168) (argsL := []) pd11 rfl 1 (by decide) (by decide) (by decide) (by decide) (rest := [(.int (1 : Int32))]) rfl rfl (Nat.le_of_eq rfl) at_44 rfl (fun v169 T169 h169 C169 qq169 => ?_)
      obtain ⟨rfl, hh169⟩ := qq169
      have hh169 := hh169.symm; subst hh169
      show Go p e below F n0 (fun v _ => v = some (.int (1 : Int32))) T169 (mkF m 47 #[.val (.int i0), .val (.int i1), .val (.int i2), .val (.int i3), .val (.int (3 : Int32)), .val (.int (3 : Int32)), .val (.ref bo164), .val (.ref b165), .val (.int (1 : Int32)), .val (.int (0 : Int32))] [(.int (f11 (0 : Int32) (3 : Int32))), (.int (1 : Int32))])
      refine C169.iload at_47 rfl rfl ?_
      refine C169.iload at_49 rfl rfl ?_
      refine C169.icmp_ge at_51 (by decide) (by decide : _ = 58) rfl (fun q => absurd (by decide) q) (fun _ => ?_)
      refine C169.iconst (1 : Int32) at_54 rfl rfl ?_
      refine C169.goto at_55 (by decide) (by decide : _ = 59) ?_
      refine C169.icmp_ne at_59 (by decide) (by decide : _ = 66) rfl (fun q => absurd (by decide) q) (fun _ => ?_)
      refine C169.iconst (1 : Int32) at_62 rfl rfl ?_
      refine C169.goto at_63 (by decide) (by decide : _ = 67) ?_
      refine C169.iand at_67 rfl ?_
      rw [own_and11]
      refine C169.istore at_68 rfl (L' := #[.val (.int i0), .val (.int i1), .val (.int i2), .val (.int i3), .val (.int (3 : Int32)), .val (.int (3 : Int32)), .val (.ref bo164), .val (.ref b165), .val (.int (1 : Int32)), .val (.int (0 : Int32))]) rfl ?_
      refine C169.iload at_70 rfl rfl ?_
      refine C169.iconst (1 : Int32) at_72 rfl rfl ?_
      refine C169.icmp_lt at_73 (by decide) (by decide : _ = 91) rfl (fun q => absurd q (by decide)) (fun _ => ?_)
      refine C169.iconst (0 : Int32) at_76 rfl rfl ?_
      refine C169.iload at_77 rfl rfl ?_
      refine C169.icmp_ge at_79 (by decide) (by decide : _ = 91) rfl (fun q => absurd (by decide) q) (fun _ => ?_)
      refine C169.aload at_82 rfl rfl rfl ?_
      refine C169.callV (hw _ (List.mem_of_getElem? (i := 93) rfl)) (hw _ (List.mem_of_getElem? (i := 94) rfl)) (hw _ (List.mem_of_getElem? (i := 96) rfl)) (hw _ (List.mem_of_getElem? (i := 95) rfl)) (hw _ (List.mem_of_getElem? (i := 34) rfl)) (hw _ (List.mem_of_getElem? (i := 97) rfl)) E_b165 (by decide) (a := b165) (rm12 l Z a0 hw b165 bc168 (0 : Int32) ko164 (3 : Int32) vs164 .null h168 n0 C169.size E_b165 F_b165_arguments F_b165_next V_bc168 E_bc168 g_b165 ⟨by decide, by decide⟩ hr) (argsL := []) pd12 rfl 0 (by decide) (by decide) (by decide) (by decide) (rest := []) rfl rfl (Nat.le_of_eq rfl) at_84 rfl (fun v170 T170 h170 C170 qq170 => ?_)
      obtain ⟨rfl, K170, p170_0, p170_1, p170_2⟩ := qq170
      have ne_bc168_b165 : bc168 ≠ b165 := (ne_exa E_bc168 E_b165 (by decide))
      have S_COMPACT_STRINGS := own_stak S_COMPACT_STRINGS K170 (allS (own_plainE E_b165) (all0))
      have S_DEFAULTCAPACITY_EMPTY_ELEMENTDATA := own_stak S_DEFAULTCAPACITY_EMPTY_ELEMENTDATA K170 (allS (own_plainE E_b165) (all0))
      have E_bo164 := E_bo164.keep K170
      have V_bo164 := V_bo164.keep K170 (ninS ne_bo164_b165 nin0)
      have E_b165 := E_b165.keep K170
      have E_bc168 := E_bc168.keep K170
      have V_bc168 := V_bc168.keep K170 (ninS ne_bc168_b165 nin0)
      have E_b165 := p170_0
      have F_b165_arguments := p170_1
      have F_b165_next := p170_2
      show Go p e below F n0 (fun v _ => v = some (.int (1 : Int32))) T170 (mkF m 87 #[.val (.int i0), .val (.int i1), .val (.int i2), .val (.int i3), .val (.int (3 : Int32)), .val (.int (3 : Int32)), .val (.ref bo164), .val (.ref b165), .val (.int (1 : Int32)), .val (.int (0 : Int32))] [(vs164.getD ((0 : Int32)).toNatClampNeg .null)])
      refine C170.pop at_87 rfl (XT.cat1 (hr _)) ?_
      refine C170.iconst (1 : Int32) at_88 rfl rfl ?_
      refine C170.istore at_89 rfl (L' := #[.val (.int i0), .val (.int i1), .val (.int i2), .val (.int i3), .val (.int (3 : Int32)), .val (.int (3 : Int32)), .val (.ref bo164), .val (.ref b165), .val (.int (1 : Int32)), .val (.int (1 : Int32))]) rfl ?_
      refine C170.iload at_91 rfl rfl ?_
      refine C170.aload at_93 rfl rfl rfl ?_
      refine C170.callV (hw _ (List.mem_of_getElem? (i := 86) rfl)) (hw _ (List.mem_of_getElem? (i := 87) rfl)) (hw _ (List.mem_of_getElem? (i := 89) rfl)) (hw _ (List.mem_of_getElem? (i := 88) rfl)) (hw _ (List.mem_of_getElem? (i := 34) rfl)) (hw _ (List.mem_of_getElem? (i := 90) rfl)) E_b165 (by decide) (a := b165) (rm11 l Z a0 hw b165 bc168 ((0 : Int32) + (1 : Int32)) ko164 (3 : Int32) vs164 .null h170 n0 C170.size F_b165_arguments F_b165_next V_bc168) (argsL := []) pd11 rfl 1 (by decide) (by decide) (by decide) (by decide) (rest := [(.int (1 : Int32))]) rfl rfl (Nat.le_of_eq rfl) at_95 rfl (fun v171 T171 h171 C171 qq171 => ?_)
      obtain ⟨rfl, hh171⟩ := qq171
      have hh171 := hh171.symm; subst hh171
      show Go p e below F n0 (fun v _ => v = some (.int (1 : Int32))) T171 (mkF m 98 #[.val (.int i0), .val (.int i1), .val (.int i2), .val (.int i3), .val (.int (3 : Int32)), .val (.int (3 : Int32)), .val (.ref bo164), .val (.ref b165), .val (.int (1 : Int32)), .val (.int (1 : Int32))] [(.int (f11 ((0 : Int32) + (1 : Int32)) (3 : Int32))), (.int (1 : Int32))])
      refine C171.iload at_98 rfl rfl ?_
      refine C171.iload at_100 rfl rfl ?_
      refine C171.icmp_ge at_102 (by decide) (by decide : _ = 109) rfl (fun q => absurd (by decide) q) (fun _ => ?_)
      refine C171.iconst (1 : Int32) at_105 rfl rfl ?_
      refine C171.goto at_106 (by decide) (by decide : _ = 110) ?_
      refine C171.icmp_ne at_110 (by decide) (by decide : _ = 117) rfl (fun q => absurd (by decide) q) (fun _ => ?_)
      refine C171.iconst (1 : Int32) at_113 rfl rfl ?_
      refine C171.goto at_114 (by decide) (by decide : _ = 118) ?_
      refine C171.iand at_118 rfl ?_
      rw [own_and11]
      refine C171.istore at_119 rfl (L' := #[.val (.int i0), .val (.int i1), .val (.int i2), .val (.int i3), .val (.int (3 : Int32)), .val (.int (3 : Int32)), .val (.ref bo164), .val (.ref b165), .val (.int (1 : Int32)), .val (.int (1 : Int32))]) rfl ?_
      refine C171.iload at_121 rfl rfl ?_
      refine C171.aload at_123 rfl rfl rfl ?_
      refine C171.callV (hw _ (List.mem_of_getElem? (i := 86) rfl)) (hw _ (List.mem_of_getElem? (i := 87) rfl)) (hw _ (List.mem_of_getElem? (i := 89) rfl)) (hw _ (List.mem_of_getElem? (i := 88) rfl)) (hw _ (List.mem_of_getElem? (i := 34) rfl)) (hw _ (List.mem_of_getElem? (i := 90) rfl)) E_b165 (by decide) (a := b165) (rm11 l Z a0 hw b165 bc168 ((0 : Int32) + (1 : Int32)) ko164 (3 : Int32) vs164 .null h170 n0 C171.size F_b165_arguments F_b165_next V_bc168) (argsL := []) pd11 rfl 1 (by decide) (by decide) (by decide) (by decide) (rest := [(.int (1 : Int32))]) rfl rfl (Nat.le_of_eq rfl) at_125 rfl (fun v172 T172 h172 C172 qq172 => ?_)
      obtain ⟨rfl, hh172⟩ := qq172
      have hh172 := hh172.symm; subst hh172
      show Go p e below F n0 (fun v _ => v = some (.int (1 : Int32))) T172 (mkF m 128 #[.val (.int i0), .val (.int i1), .val (.int i2), .val (.int i3), .val (.int (3 : Int32)), .val (.int (3 : Int32)), .val (.ref bo164), .val (.ref b165), .val (.int (1 : Int32)), .val (.int (1 : Int32))] [(.int (f11 ((0 : Int32) + (1 : Int32)) (3 : Int32))), (.int (1 : Int32))])
      refine C172.iload at_128 rfl rfl ?_
      refine C172.iload at_130 rfl rfl ?_
      refine C172.icmp_ge at_132 (by decide) (by decide : _ = 139) rfl (fun q => absurd (by decide) q) (fun _ => ?_)
      refine C172.iconst (1 : Int32) at_135 rfl rfl ?_
      refine C172.goto at_136 (by decide) (by decide : _ = 140) ?_
      refine C172.icmp_ne at_140 (by decide) (by decide : _ = 147) rfl (fun q => absurd (by decide) q) (fun _ => ?_)
      refine C172.iconst (1 : Int32) at_143 rfl rfl ?_
      refine C172.goto at_144 (by decide) (by decide : _ = 148) ?_
      refine C172.iand at_148 rfl ?_
      rw [own_and11]
      refine C172.istore at_149 rfl (L' := #[.val (.int i0), .val (.int i1), .val (.int i2), .val (.int i3), .val (.int (3 : Int32)), .val (.int (3 : Int32)), .val (.ref bo164), .val (.ref b165), .val (.int (1 : Int32)), .val (.int (1 : Int32))]) rfl ?_
      refine C172.iload at_151 rfl rfl ?_
      refine C172.iconst (2 : Int32) at_153 rfl rfl ?_
      refine C172.icmp_lt at_154 (by decide) (by decide : _ = 172) rfl (fun q => absurd q (by decide)) (fun _ => ?_)
      refine C172.iconst (1 : Int32) at_157 rfl rfl ?_
      refine C172.iload at_158 rfl rfl ?_
      refine C172.icmp_ge at_160 (by decide) (by decide : _ = 172) rfl (fun q => absurd (by decide) q) (fun _ => ?_)
      refine C172.aload at_163 rfl rfl rfl ?_
      refine C172.callV (hw _ (List.mem_of_getElem? (i := 93) rfl)) (hw _ (List.mem_of_getElem? (i := 94) rfl)) (hw _ (List.mem_of_getElem? (i := 96) rfl)) (hw _ (List.mem_of_getElem? (i := 95) rfl)) (hw _ (List.mem_of_getElem? (i := 34) rfl)) (hw _ (List.mem_of_getElem? (i := 97) rfl)) E_b165 (by decide) (a := b165) (rm12 l Z a0 hw b165 bc168 ((0 : Int32) + (1 : Int32)) ko164 (3 : Int32) vs164 .null h170 n0 C172.size E_b165 F_b165_arguments F_b165_next V_bc168 E_bc168 g_b165 ⟨by decide, by decide⟩ hr) (argsL := []) pd12 rfl 0 (by decide) (by decide) (by decide) (by decide) (rest := []) rfl rfl (Nat.le_of_eq rfl) at_165 rfl (fun v173 T173 h173 C173 qq173 => ?_)
      obtain ⟨rfl, K173, p173_0, p173_1, p173_2⟩ := qq173
      have S_COMPACT_STRINGS := own_stak S_COMPACT_STRINGS K173 (allS (own_plainE E_b165) (all0))
      have S_DEFAULTCAPACITY_EMPTY_ELEMENTDATA := own_stak S_DEFAULTCAPACITY_EMPTY_ELEMENTDATA K173 (allS (own_plainE E_b165) (all0))
      have E_bo164 := E_bo164.keep K173
      have V_bo164 := V_bo164.keep K173 (ninS ne_bo164_b165 nin0)
      have E_b165 := E_b165.keep K173
      have E_bc168 := E_bc168.keep K173
      have V_bc168 := V_bc168.keep K173 (ninS ne_bc168_b165 nin0)
      have E_b165 := p173_0
      have F_b165_arguments := p173_1
      have F_b165_next := p173_2
      show Go p e below F n0 (fun v _ => v = some (.int (1 : Int32))) T173 (mkF m 168 #[.val (.int i0), .val (.int i1), .val (.int i2), .val (.int i3), .val (.int (3 : Int32)), .val (.int (3 : Int32)), .val (.ref bo164), .val (.ref b165), .val (.int (1 : Int32)), .val (.int (1 : Int32))] [(vs164.getD (((0 : Int32) + (1 : Int32))).toNatClampNeg .null)])
      refine C173.pop at_168 rfl (XT.cat1 (hr _)) ?_
      refine C173.iconst (2 : Int32) at_169 rfl rfl ?_
      refine C173.istore at_170 rfl (L' := #[.val (.int i0), .val (.int i1), .val (.int i2), .val (.int i3), .val (.int (3 : Int32)), .val (.int (3 : Int32)), .val (.ref bo164), .val (.ref b165), .val (.int (1 : Int32)), .val (.int (2 : Int32))]) rfl ?_
      refine C173.iload at_172 rfl rfl ?_
      refine C173.aload at_174 rfl rfl rfl ?_
      refine C173.callV (hw _ (List.mem_of_getElem? (i := 86) rfl)) (hw _ (List.mem_of_getElem? (i := 87) rfl)) (hw _ (List.mem_of_getElem? (i := 89) rfl)) (hw _ (List.mem_of_getElem? (i := 88) rfl)) (hw _ (List.mem_of_getElem? (i := 34) rfl)) (hw _ (List.mem_of_getElem? (i := 90) rfl)) E_b165 (by decide) (a := b165) (rm11 l Z a0 hw b165 bc168 (((0 : Int32) + (1 : Int32)) + (1 : Int32)) ko164 (3 : Int32) vs164 .null h173 n0 C173.size F_b165_arguments F_b165_next V_bc168) (argsL := []) pd11 rfl 1 (by decide) (by decide) (by decide) (by decide) (rest := [(.int (1 : Int32))]) rfl rfl (Nat.le_of_eq rfl) at_176 rfl (fun v174 T174 h174 C174 qq174 => ?_)
      obtain ⟨rfl, hh174⟩ := qq174
      have hh174 := hh174.symm; subst hh174
      show Go p e below F n0 (fun v _ => v = some (.int (1 : Int32))) T174 (mkF m 179 #[.val (.int i0), .val (.int i1), .val (.int i2), .val (.int i3), .val (.int (3 : Int32)), .val (.int (3 : Int32)), .val (.ref bo164), .val (.ref b165), .val (.int (1 : Int32)), .val (.int (2 : Int32))] [(.int (f11 (((0 : Int32) + (1 : Int32)) + (1 : Int32)) (3 : Int32))), (.int (1 : Int32))])
      refine C174.iload at_179 rfl rfl ?_
      refine C174.iload at_181 rfl rfl ?_
      refine C174.icmp_ge at_183 (by decide) (by decide : _ = 190) rfl (fun q => absurd (by decide) q) (fun _ => ?_)
      refine C174.iconst (1 : Int32) at_186 rfl rfl ?_
      refine C174.goto at_187 (by decide) (by decide : _ = 191) ?_
      refine C174.icmp_ne at_191 (by decide) (by decide : _ = 198) rfl (fun q => absurd (by decide) q) (fun _ => ?_)
      refine C174.iconst (1 : Int32) at_194 rfl rfl ?_
      refine C174.goto at_195 (by decide) (by decide : _ = 199) ?_
      refine C174.iand at_199 rfl ?_
      rw [own_and11]
      refine C174.istore at_200 rfl (L' := #[.val (.int i0), .val (.int i1), .val (.int i2), .val (.int i3), .val (.int (3 : Int32)), .val (.int (3 : Int32)), .val (.ref bo164), .val (.ref b165), .val (.int (1 : Int32)), .val (.int (2 : Int32))]) rfl ?_
      refine C174.iload at_202 rfl rfl ?_
      refine C174.iconst (3 : Int32) at_204 rfl rfl ?_
      refine C174.icmp_lt at_205 (by decide) (by decide : _ = 223) rfl (fun q => absurd q (by decide)) (fun _ => ?_)
      refine C174.iconst (2 : Int32) at_208 rfl rfl ?_
      refine C174.iload at_209 rfl rfl ?_
      refine C174.icmp_ge at_211 (by decide) (by decide : _ = 223) rfl (fun q => absurd (by decide) q) (fun _ => ?_)
      refine C174.aload at_214 rfl rfl rfl ?_
      refine C174.callV (hw _ (List.mem_of_getElem? (i := 93) rfl)) (hw _ (List.mem_of_getElem? (i := 94) rfl)) (hw _ (List.mem_of_getElem? (i := 96) rfl)) (hw _ (List.mem_of_getElem? (i := 95) rfl)) (hw _ (List.mem_of_getElem? (i := 34) rfl)) (hw _ (List.mem_of_getElem? (i := 97) rfl)) E_b165 (by decide) (a := b165) (rm12 l Z a0 hw b165 bc168 (((0 : Int32) + (1 : Int32)) + (1 : Int32)) ko164 (3 : Int32) vs164 .null h173 n0 C174.size E_b165 F_b165_arguments F_b165_next V_bc168 E_bc168 g_b165 ⟨by decide, by decide⟩ hr) (argsL := []) pd12 rfl 0 (by decide) (by decide) (by decide) (by decide) (rest := []) rfl rfl (Nat.le_of_eq rfl) at_216 rfl (fun v175 T175 h175 C175 qq175 => ?_)
      obtain ⟨rfl, K175, p175_0, p175_1, p175_2⟩ := qq175
      have S_COMPACT_STRINGS := own_stak S_COMPACT_STRINGS K175 (allS (own_plainE E_b165) (all0))
      have S_DEFAULTCAPACITY_EMPTY_ELEMENTDATA := own_stak S_DEFAULTCAPACITY_EMPTY_ELEMENTDATA K175 (allS (own_plainE E_b165) (all0))
      have E_bo164 := E_bo164.keep K175
      have V_bo164 := V_bo164.keep K175 (ninS ne_bo164_b165 nin0)
      have E_b165 := E_b165.keep K175
      have E_bc168 := E_bc168.keep K175
      have V_bc168 := V_bc168.keep K175 (ninS ne_bc168_b165 nin0)
      have E_b165 := p175_0
      have F_b165_arguments := p175_1
      have F_b165_next := p175_2
      show Go p e below F n0 (fun v _ => v = some (.int (1 : Int32))) T175 (mkF m 219 #[.val (.int i0), .val (.int i1), .val (.int i2), .val (.int i3), .val (.int (3 : Int32)), .val (.int (3 : Int32)), .val (.ref bo164), .val (.ref b165), .val (.int (1 : Int32)), .val (.int (2 : Int32))] [(vs164.getD ((((0 : Int32) + (1 : Int32)) + (1 : Int32))).toNatClampNeg .null)])
      refine C175.pop at_219 rfl (XT.cat1 (hr _)) ?_
      refine C175.iconst (3 : Int32) at_220 rfl rfl ?_
      refine C175.istore at_221 rfl (L' := #[.val (.int i0), .val (.int i1), .val (.int i2), .val (.int i3), .val (.int (3 : Int32)), .val (.int (3 : Int32)), .val (.ref bo164), .val (.ref b165), .val (.int (1 : Int32)), .val (.int (3 : Int32))]) rfl ?_
      refine C175.iload at_223 rfl rfl ?_
      refine C175.aload at_225 rfl rfl rfl ?_
      refine C175.callV (hw _ (List.mem_of_getElem? (i := 86) rfl)) (hw _ (List.mem_of_getElem? (i := 87) rfl)) (hw _ (List.mem_of_getElem? (i := 89) rfl)) (hw _ (List.mem_of_getElem? (i := 88) rfl)) (hw _ (List.mem_of_getElem? (i := 34) rfl)) (hw _ (List.mem_of_getElem? (i := 90) rfl)) E_b165 (by decide) (a := b165) (rm11 l Z a0 hw b165 bc168 ((((0 : Int32) + (1 : Int32)) + (1 : Int32)) + (1 : Int32)) ko164 (3 : Int32) vs164 .null h175 n0 C175.size F_b165_arguments F_b165_next V_bc168) (argsL := []) pd11 rfl 1 (by decide) (by decide) (by decide) (by decide) (rest := [(.int (1 : Int32))]) rfl rfl (Nat.le_of_eq rfl) at_227 rfl (fun v176 T176 h176 C176 qq176 => ?_)
      obtain ⟨rfl, hh176⟩ := qq176
      have hh176 := hh176.symm; subst hh176
      show Go p e below F n0 (fun v _ => v = some (.int (1 : Int32))) T176 (mkF m 230 #[.val (.int i0), .val (.int i1), .val (.int i2), .val (.int i3), .val (.int (3 : Int32)), .val (.int (3 : Int32)), .val (.ref bo164), .val (.ref b165), .val (.int (1 : Int32)), .val (.int (3 : Int32))] [(.int (f11 ((((0 : Int32) + (1 : Int32)) + (1 : Int32)) + (1 : Int32)) (3 : Int32))), (.int (1 : Int32))])
      refine C176.iload at_230 rfl rfl ?_
      refine C176.iload at_232 rfl rfl ?_
      refine C176.icmp_ge at_234 (by decide) (by decide : _ = 241) rfl (fun _ => ?_) (fun q => absurd q (by decide))
      refine C176.iconst (0 : Int32) at_241 rfl rfl ?_
      refine C176.icmp_ne at_242 (by decide) (by decide : _ = 249) rfl (fun q => absurd (by decide) q) (fun _ => ?_)
      refine C176.iconst (1 : Int32) at_245 rfl rfl ?_
      refine C176.goto at_246 (by decide) (by decide : _ = 250) ?_
      refine C176.iand at_250 rfl ?_
      rw [own_and11]
      refine C176.istore at_251 rfl (L' := #[.val (.int i0), .val (.int i1), .val (.int i2), .val (.int i3), .val (.int (3 : Int32)), .val (.int (3 : Int32)), .val (.ref bo164), .val (.ref b165), .val (.int (1 : Int32)), .val (.int (3 : Int32))]) rfl ?_
      refine C176.iload at_253 rfl rfl ?_
      exact C176.retN (t := .boolean) at_255 rfl (by simp) (by decide) (by decide) (w := (1 : Int32)) rfl rfl
set_option maxRecDepth 65536 in
set_option maxHeartbeats 40000000 in
theorem comes_1 {Post : Tables → Env → Array Value → State → Outcome → State → Prop} (hpost : ∀ tb e args s v u, (limb_1_1.after args s (.returned v) u = true ∧ limb_1_2.after args s (.returned v) u = true ∧ True) → Jvm.D.FramedW s (.returned v) u (Jvm.fieldLocs frame_1_writes args s ++ Jvm.arrayLocs frame_1_arrays args s ++ Jvm.staticLocs frame_1_statics s) 32 2240 → Post tb e args s (.returned v) u) :
    ArmFor flags0 classFile x code maxLocals ret World_1 tables_1 room_1 Calls_1 rest_1 Pre_1 Post := by
  intro l hfl _ _ p e ha hc hk s m args below hf hA hF happ hP
  obtain ⟨hcalls, hrest, hpre⟩ := hP
  obtain ⟨-, -, -, hnamed, -, -, -, hat⟩ := (Spec.applies_iff hf).mp happ
  obtain ⟨hg, hn⟩ := and_e (Cond.before_iff.mp (show (Jvm.Cond.and given_1 narrow_1).before args s = true from hpre))
  obtain ⟨g1, g2⟩ := and_e hg
  obtain ⟨g3, g4⟩ := and_e g2
  obtain ⟨g5, g6⟩ := and_e g4
  obtain ⟨g7, g8⟩ := and_e g6
  obtain ⟨w0, w1, w2, w3, rfl⟩ : ∃ w0 w1 w2 w3 : Value, args = #[w0, w1, w2, w3] := by
    have hs : args.size = 4 := by simpa [Cond.value, given_1] using g1
    obtain ⟨L⟩ := args
    match L, hs with
    | [w0, w1, w2, w3], _ => exact ⟨w0, w1, w2, w3, rfl⟩
  have hw := fun d (hd : d ∈ tables_1) => atoms_spec (ws := Jvm.Cond.code x code maxLocals ret :: tables_1) hat d (List.mem_cons_of_mem _ hd)
  have hfit : Fit s := fun {y c} hc i hi => by
    obtain ⟨ha, rfl⟩ := Array.getElem?_eq_some_iff.mp hc
    have q := List.all_eq_true.mp ((Array.all_eq_true_iff_forall_mem.mp hF) _ (Array.getElem_mem ha)) i (List.mem_range.mpr hi)
    simpa [Array.getElem?_eq_getElem hi] using q
  obtain ⟨hsets, hown0⟩ := atoms_of _ (rest_1_c_eq ▸ (show rest_1_c.before _ s = true from hrest))
  have hr0 := Cond.before_iff.mp hown0
  obtain ⟨i0, ei0⟩ := is_v g3
  obtain rfl : w0 = (.int i0) := Option.some.inj ei0
  obtain ⟨i1, ei1⟩ := is_v g5
  obtain rfl : w1 = (.int i1) := Option.some.inj ei1
  obtain ⟨i2, ei2⟩ := is_v g7
  obtain rfl : w2 = (.int i2) := Option.some.inj ei2
  obtain ⟨i3, ei3⟩ := is_v g8
  obtain rfl : w3 = (.int i3) := Option.some.inj ei3
  obtain ⟨cs, evc⟩ := is_v (Cond.before_iff.mp (hsets _ (List.mem_of_getElem? (i := 1) rfl)))
  have S1 := Sta.start evc (Or.inl (hsets _ (List.mem_of_getElem? (i := 0) rfl)))
  have hcs := own_nz evc (Cond.before_iff.mp (hsets _ (List.mem_of_getElem? (i := 2) rfl)))
  obtain ⟨de, ev1⟩ := exa_v (Cond.before_iff.mp (hsets _ (List.mem_of_getElem? (i := 16) rfl)))
  have S2 := Sta.start ev1 (Or.inr ⟨(hw _ (List.mem_of_getElem? (i := 45) rfl)), hsets _ (List.mem_of_getElem? (i := 11) rfl)⟩)
  obtain ⟨n, o, h1, h2, h3, _, L, rfl, ⟨⟨rfl, -⟩, N⟩, hq⟩ := rm0 l s _ hw i0 i1 i2 i3 cs de s.heap s.heap.size (Nat.le_refl _) S1 hcs S2 tables_1 p e ha hc hk s m _ below hf ((Spec.applies_iff_loose hf).mp happ).1 ⟨rfl, State.Warmed39.refl s, rfl⟩ trivial
  refine ⟨n, _, h1, h2, h3, hpost _ _ _ _ _ _ ⟨Cond.after_iff.mpr rfl, Cond.after_iff.mpr (eq_i res_at (Term.int_eval (1)) rfl), trivial⟩ ⟨hq.1, hq.2.1, hq.2.2.1, (hq.2.2.2.sift fun y hy => Or.inr (N y hy)).mono (by decide) (by decide)⟩⟩
theorem main_1_1 : Claimed_1_1 := comes_1 fun _ _ _ _ _ _ h hF => ⟨h.1, hF⟩
theorem main_1_2 : Claimed_1_2 := comes_1 fun _ _ _ _ _ _ h hF => ⟨h.2.1, hF⟩
end Jvm.Pilot.@@N@@
namespace Jvm.Pilot.@@N@@
open Jvm Jvm.ClassFile Sem Op Lib Jvm.Free Jvm.Stand Jvm.Pilot.@@N@@.Jvm.D
/-! MADE BY PROGRAM (witnessworld.py) out of the Statement's table words and the real class files: 27 classes; the members and pool entries that the words name. The judged class is class 1, her method 2. -/
namespace start1
open Jvm.ClassFile
def u (s : String) : CpInfo := .utf8 (stringToUtf16 s)
/-- a pool by its gaps: so many unusable entries, then the entry; so many at the end -/
def gap : Nat → List CpInfo → List CpInfo
  | 0, r => r
  | n + 1, r => .unusable :: gap n r
def poolList (es : List (Nat × CpInfo)) (last : Nat) : List CpInfo := es.foldr (fun e r => gap e.1 (e.2 :: r)) (gap last [])
def pool (es : List (Nat × CpInfo)) (last : Nat) : Array CpInfo := ⟨poolList es last⟩
def fileOf (pool : Array CpInfo) (this : Nat) (attrs : Array Attribute := #[]) (ms : Array MethodInfo := #[]) (fl : Nat := 33) (sup : Nat := 0) (ifs : Array Nat := #[]) (fds : Array FieldInfo := #[]) : ClassFile where
  minorVersion := 0
  majorVersion := 65
  constantPool := pool
  accessFlags := fl
  thisClass := this
  superClass := sup
  interfaces := ifs
  fields := fds
  methods := ms
  attributes := attrs
def plain (name : String) (sup : Option ClassId) : Class where
  name := name
  kind := .ordinary
  loader := none
  accessFlags := 33
  super := sup
  interfaces := #[]
  cf := none
  fields := #[]
  methods := #[]
  instanceTypes := #[]
  staticTypes := #[]
  resolved := #[]
  callSites := []
  init := .initialized
  statics := none
  mirror := none

def pool0 : Array CpInfo := pool [(5, u "<init>"), (0, u "()V"), (1, .class_ 10), (1, u "java/lang/Object"), (85, u "clone"), (0, u "()Ljava/lang/Object;")] 26

def k0c0 : Code := { maxStack := 0, maxLocals := 1, code := object_method_1_code, exceptionTable := #[], attributes := #[] }
def k0m0 : Method := { name := "<init>", desc := "()V", sig := { parameters := [], returnType := none }, accessFlags := 1, code := some k0c0 }
def k0m1 : Method := { name := "clone", desc := "()Ljava/lang/Object;", sig := { parameters := [], returnType := some (.object "java/lang/Object") }, accessFlags := 260, code := none }
/-- java/lang/Object -/
def k0 : Class := { plain "java/lang/Object" none with
  accessFlags := 33
  interfaces := #[]
  cf := some (fileOf pool0 8 #[] #[{ accessFlags := 1, nameIndex := 5, descriptorIndex := 6, attributes := #[] }, { accessFlags := 260, nameIndex := 96, descriptorIndex := 97, attributes := #[] }] 33 0 #[] #[])
  fields := #[]
  methods := #[k0m0, k0m1]
  instanceTypes := #[]
  staticTypes := #[]
  resolved := Array.replicate 124 none
  statics := none }

def pool1 : Array CpInfo := pool [(2, .class_ 4), (1, u "java/lang/Object"), (0, u "<init>"), (0, u "()V"), (0, .methodref 8 9), (0, .class_ 10), (0, .nameAndType 11 12), (0, u "java/lang/String"), (0, u "valueOf"), (0, u "(C)Ljava/lang/String;"), (0, .methodref 14 15), (0, .class_ 16), (0, .nameAndType 17 18), (0, u "com/example/bouncer/bouncer/cli/ArgumentsHasNextPinLaw"), (0, u "make"), (0, u "(II)[Ljava/lang/String;"), (0, .class_ 20), (0, u "com/example/bouncer/bouncer/cli/Arguments"), (0, .string 22), (0, u "x"), (0, .string 24), (0, u "y"), (0, .methodref 19 26), (0, .nameAndType 5 27), (0, u "(Ljava/lang/String;Ljava/lang/String;[Ljava/lang/String;I)V"), (0, .methodref 19 29), (0, .nameAndType 30 31), (0, u "hasNext"), (0, u "()Z"), (0, .methodref 19 33), (0, .nameAndType 34 35), (0, u "next"), (0, u "()Ljava/lang/String;"), (3, u "law"), (0, u "(IIII)Z")] 4

def k1m0 : Method := { name := "<init>", desc := "()V", sig := { parameters := [], returnType := none }, accessFlags := 2, code := none }
def k1c1 : Code := { maxStack := 4, maxLocals := 5, code := method_2_code, exceptionTable := #[], attributes := #[] }
def k1m1 : Method := { name := "make", desc := "(II)[Ljava/lang/String;", sig := { parameters := [.int, .int], returnType := some (.array (.object "java/lang/String")) }, accessFlags := 10, code := some k1c1 }
def k1c2 : Code := { maxStack := 6, maxLocals := 10, code := code, exceptionTable := #[], attributes := #[] }
def k1m2 : Method := { name := "law", desc := "(IIII)Z", sig := { parameters := [.int, .int, .int, .int], returnType := some .boolean }, accessFlags := 9, code := some k1c2 }
/-- com/example/bouncer/bouncer/cli/ArgumentsHasNextPinLaw -/
def k1 : Class := { plain "com/example/bouncer/bouncer/cli/ArgumentsHasNextPinLaw" (some 0) with
  accessFlags := 49
  interfaces := #[]
  cf := some (fileOf pool1 14 #[] #[{ accessFlags := 2, nameIndex := 5, descriptorIndex := 6, attributes := #[] }, { accessFlags := 10, nameIndex := 17, descriptorIndex := 18, attributes := #[] }, { accessFlags := 9, nameIndex := 39, descriptorIndex := 40, attributes := #[] }] 49 2 #[] #[])
  fields := #[]
  methods := #[k1m0, k1m1, k1m2]
  instanceTypes := #[]
  staticTypes := #[]
  resolved := Array.replicate 45 none
  statics := none }

def pool2 : Array CpInfo := pool [(1, .class_ 2), (0, u "java/io/Serializable"), (0, .class_ 4), (0, u "java/lang/Object")] 2

/-- java/io/Serializable -/
def k2 : Class := { plain "java/io/Serializable" (some 0) with
  accessFlags := 1537
  interfaces := #[]
  cf := some (fileOf pool2 1 #[] #[] 1537 3 #[] #[])
  fields := #[]
  methods := #[]
  instanceTypes := #[]
  staticTypes := #[]
  resolved := Array.replicate 7 none
  statics := none }

def pool3 : Array CpInfo := pool [(1, .class_ 2), (0, u "java/lang/Comparable"), (0, .class_ 4), (0, u "java/lang/Object")] 7

/-- java/lang/Comparable -/
def k3 : Class := { plain "java/lang/Comparable" (some 0) with
  accessFlags := 1537
  interfaces := #[]
  cf := some (fileOf pool3 1 #[] #[] 1537 3 #[] #[])
  fields := #[]
  methods := #[]
  instanceTypes := #[]
  staticTypes := #[]
  resolved := Array.replicate 12 none
  statics := none }

def pool4 : Array CpInfo := pool [(2, .class_ 4), (1, u "java/lang/CharSequence"), (42, .class_ 48), (0, u "java/lang/CharSequence$1CodePointIterator"), (10, .class_ 60), (0, u "java/lang/CharSequence$1CharIterator"), (5, .class_ 67), (0, u "java/lang/Object")] 63

/-- java/lang/CharSequence -/
def k4 : Class := { plain "java/lang/CharSequence" (some 0) with
  accessFlags := 1537
  interfaces := #[]
  cf := some (fileOf pool4 2 #[.nestMembers #[47, 59]] #[] 1537 66 #[] #[])
  fields := #[]
  methods := #[]
  instanceTypes := #[]
  staticTypes := #[]
  resolved := Array.replicate 131 none
  statics := none }

def pool5 : Array CpInfo := pool [(1, .class_ 2), (0, u "java/lang/constant/Constable"), (0, .class_ 4), (0, u "java/lang/Object")] 6

/-- java/lang/constant/Constable -/
def k5 : Class := { plain "java/lang/constant/Constable" (some 0) with
  accessFlags := 1537
  interfaces := #[]
  cf := some (fileOf pool5 1 #[] #[] 1537 3 #[] #[])
  fields := #[]
  methods := #[]
  instanceTypes := #[]
  staticTypes := #[]
  resolved := Array.replicate 11 none
  statics := none }

def pool6 : Array CpInfo := pool [(1, .class_ 2), (0, u "java/lang/constant/ConstantDesc"), (0, .class_ 4), (0, u "java/lang/Object")] 32

/-- java/lang/constant/ConstantDesc -/
def k6 : Class := { plain "java/lang/constant/ConstantDesc" (some 0) with
  accessFlags := 1537
  interfaces := #[]
  cf := some (fileOf pool6 1 #[] #[] 1537 3 #[] #[])
  fields := #[]
  methods := #[]
  instanceTypes := #[]
  staticTypes := #[]
  resolved := Array.replicate 37 none
  statics := none }

def pool7 : Array CpInfo := pool [(1, .methodref 2 3), (0, .class_ 4), (0, .nameAndType 5 6), (0, u "java/lang/Object"), (0, u "<init>"), (0, u "()V"), (2, .fieldref 10 11), (0, .class_ 12), (0, .nameAndType 13 14), (0, u "java/lang/String"), (0, u "value"), (0, u "[B"), (0, .fieldref 10 16), (0, .nameAndType 17 18), (0, u "coder"), (0, u "B"), (2, u "hash"), (0, u "I"), (2, u "hashIsZero"), (0, u "Z"), (11, .fieldref 10 39), (0, .nameAndType 40 26), (0, u "COMPACT_STRINGS"), (12, u "toBytes"), (53, .class_ 109), (1, u "java/lang/StringLatin1"), (99, .methodref 10 210), (0, .nameAndType 5 211), (0, u "([BB)V"), (157, u "(C)Z"), (205, .class_ 576), (0, u "java/lang/CharSequence"), (22, u "CASE_INSENSITIVE_ORDER"), (0, u "Ljava/util/Comparator;"), (181, u "valueOf"), (0, u "(C)Ljava/lang/String;"), (231, .methodref 107 1016), (0, .nameAndType 1017 369), (0, u "canEncode"), (0, .methodref 107 1019), (0, .nameAndType 53 1020), (0, u "(C)[B"), (80, u "serialPersistentFields"), (0, u "[Ljava/io/ObjectStreamField;"), (0, .class_ 1104), (0, u "java/lang/String$CaseInsensitiveComparator"), (1, .class_ 1107), (0, u "java/io/Serializable"), (0, .class_ 1109), (0, u "java/lang/Comparable"), (0, .class_ 1111), (0, u "java/lang/constant/Constable"), (0, .class_ 1113), (0, u "java/lang/constant/ConstantDesc"), (2, u "serialVersionUID"), (0, u "J"), (3, u "REPL"), (0, u "C"), (2, u "LATIN1"), (1, u "UTF16")] 323

def k7m0 : Method := { name := "<init>", desc := "()V", sig := { parameters := [], returnType := none }, accessFlags := 1, code := none }
def k7c1 : Code := { maxStack := 4, maxLocals := 1, code := jdk_42_method_139_code, exceptionTable := #[], attributes := #[] }
def k7m1 : Method := { name := "valueOf", desc := "(C)Ljava/lang/String;", sig := { parameters := [.char], returnType := some (.object "java/lang/String") }, accessFlags := 9, code := some k7c1 }
def k7c2 : Code := { maxStack := 2, maxLocals := 3, code := jdk_42_method_151_code, exceptionTable := #[], attributes := #[] }
def k7m2 : Method := { name := "<init>", desc := "([BB)V", sig := { parameters := [(.array .byte), .byte], returnType := none }, accessFlags := 0, code := some k7c2 }
/-- java/lang/String -/
def k7 : Class := { plain "java/lang/String" (some 0) with
  accessFlags := 49
  interfaces := #[2, 3, 4, 5, 6]
  cf := some (fileOf pool7 10 #[.nestMembers #[1103]] #[{ accessFlags := 1, nameIndex := 5, descriptorIndex := 6, attributes := #[] }, { accessFlags := 9, nameIndex := 782, descriptorIndex := 783, attributes := #[] }, { accessFlags := 0, nameIndex := 5, descriptorIndex := 211, attributes := #[] }] 49 2 #[1106, 1108, 575, 1110, 1112] #[{ accessFlags := 18, nameIndex := 13, descriptorIndex := 14, attributes := #[] }, { accessFlags := 18, nameIndex := 17, descriptorIndex := 18, attributes := #[] }, { accessFlags := 2, nameIndex := 21, descriptorIndex := 22, attributes := #[] }, { accessFlags := 2, nameIndex := 25, descriptorIndex := 26, attributes := #[] }, { accessFlags := 26, nameIndex := 1116, descriptorIndex := 1117, attributes := #[] }, { accessFlags := 24, nameIndex := 40, descriptorIndex := 26, attributes := #[] }, { accessFlags := 26, nameIndex := 1101, descriptorIndex := 1102, attributes := #[] }, { accessFlags := 26, nameIndex := 1121, descriptorIndex := 1122, attributes := #[] }, { accessFlags := 25, nameIndex := 599, descriptorIndex := 600, attributes := #[] }, { accessFlags := 24, nameIndex := 1125, descriptorIndex := 18, attributes := #[] }, { accessFlags := 24, nameIndex := 1127, descriptorIndex := 18, attributes := #[] }])
  fields := #[{ name := "value", type := (.array .byte), accessFlags := 18, slot := 0, constantValue := 0 }, { name := "coder", type := .byte, accessFlags := 18, slot := 1, constantValue := 0 }, { name := "hash", type := .int, accessFlags := 2, slot := 2, constantValue := 0 }, { name := "hashIsZero", type := .boolean, accessFlags := 2, slot := 3, constantValue := 0 }, { name := "serialVersionUID", type := .long, accessFlags := 26, slot := 0, constantValue := 0 }, { name := "COMPACT_STRINGS", type := .boolean, accessFlags := 24, slot := 1, constantValue := 0 }, { name := "serialPersistentFields", type := (.array (.object "java/io/ObjectStreamField")), accessFlags := 26, slot := 2, constantValue := 0 }, { name := "REPL", type := .char, accessFlags := 26, slot := 3, constantValue := 0 }, { name := "CASE_INSENSITIVE_ORDER", type := (.object "java/util/Comparator"), accessFlags := 25, slot := 4, constantValue := 0 }, { name := "LATIN1", type := .byte, accessFlags := 24, slot := 5, constantValue := 0 }, { name := "UTF16", type := .byte, accessFlags := 24, slot := 6, constantValue := 0 }]
  methods := #[k7m0, k7m1, k7m2]
  instanceTypes := #[(.array .byte), .byte, .int, .boolean]
  staticTypes := #[.long, .boolean, (.array (.object "java/io/ObjectStreamField")), .char, (.object "java/util/Comparator"), .byte, .byte]
  resolved := Array.replicate 1451 none
  statics := some 0 }

def pool8 : Array CpInfo := pool [(4, .class_ 6), (1, u "java/lang/Object"), (0, u "<init>"), (0, u "()V"), (5, .class_ 16), (1, u "java/lang/StringLatin1"), (73, u "canEncode"), (14, u "(C)Z"), (15, u "$assertionsDisabled"), (0, u "Z"), (98, .class_ 223), (1, u "java/lang/StringLatin1$LinesSpliterator"), (156, u "toBytes"), (1, u "(C)[B"), (7, .class_ 391), (0, u "java/lang/StringLatin1$CharsSpliterator")] 3

def k8m0 : Method := { name := "<init>", desc := "()V", sig := { parameters := [], returnType := none }, accessFlags := 0, code := none }
def k8c1 : Code := { maxStack := 2, maxLocals := 1, code := jdk_43_method_3_code, exceptionTable := #[], attributes := #[] }
def k8m1 : Method := { name := "canEncode", desc := "(C)Z", sig := { parameters := [.char], returnType := some .boolean }, accessFlags := 9, code := some k8c1 }
def k8c2 : Code := { maxStack := 4, maxLocals := 1, code := jdk_43_method_46_code, exceptionTable := #[], attributes := #[] }
def k8m2 : Method := { name := "toBytes", desc := "(C)[B", sig := { parameters := [.char], returnType := some (.array .byte) }, accessFlags := 9, code := some k8c2 }
/-- java/lang/StringLatin1 -/
def k8 : Class := { plain "java/lang/StringLatin1" (some 0) with
  accessFlags := 48
  interfaces := #[]
  cf := some (fileOf pool8 14 #[.nestMembers #[390, 221]] #[{ accessFlags := 0, nameIndex := 7, descriptorIndex := 8, attributes := #[] }, { accessFlags := 9, nameIndex := 90, descriptorIndex := 105, attributes := #[] }, { accessFlags := 9, nameIndex := 380, descriptorIndex := 382, attributes := #[] }] 48 4 #[] #[{ accessFlags := 4120, nameIndex := 121, descriptorIndex := 122, attributes := #[] }])
  fields := #[{ name := "$assertionsDisabled", type := .boolean, accessFlags := 4120, slot := 0, constantValue := 0 }]
  methods := #[k8m0, k8m1, k8m2]
  instanceTypes := #[]
  staticTypes := #[.boolean]
  resolved := Array.replicate 395 none
  statics := none }

def pool9 : Array CpInfo := pool [(1, .methodref 2 3), (0, .class_ 4), (0, .nameAndType 5 6), (0, u "java/lang/Object"), (0, u "<init>"), (0, u "()V"), (0, .class_ 8), (0, u "java/util/ArrayList"), (0, .methodref 7 3), (0, .fieldref 11 12), (0, .class_ 13), (0, .nameAndType 14 15), (0, u "com/example/bouncer/bouncer/cli/Arguments"), (0, u "operands"), (0, u "Ljava/util/List;"), (0, .fieldref 11 17), (0, .nameAndType 18 19), (0, u "command"), (0, u "Ljava/lang/String;"), (0, .fieldref 11 21), (0, .nameAndType 22 19), (0, u "usage"), (0, .methodref 24 25), (0, .class_ 26), (0, .nameAndType 27 28), (0, u "[Ljava/lang/String;"), (0, u "clone"), (0, u "()Ljava/lang/Object;"), (0, .fieldref 11 30), (0, .nameAndType 31 26), (0, u "arguments"), (0, .fieldref 11 33), (0, .nameAndType 34 35), (0, u "maxOperands"), (0, u "I"), (0, .fieldref 11 37), (0, .nameAndType 38 35), (0, u "next"), (2, u "hasNext"), (0, u "()Z"), (10, u "()Ljava/lang/String;"), (100, u "(Ljava/lang/String;Ljava/lang/String;[Ljava/lang/String;I)V")] 43

def k9c0 : Code := { maxStack := 3, maxLocals := 5, code := prog_26_method_1_code, exceptionTable := #[], attributes := #[] }
def k9m0 : Method := { name := "<init>", desc := "(Ljava/lang/String;Ljava/lang/String;[Ljava/lang/String;I)V", sig := { parameters := [(.object "java/lang/String"), (.object "java/lang/String"), (.array (.object "java/lang/String")), .int], returnType := none }, accessFlags := 0, code := some k9c0 }
def k9c1 : Code := { maxStack := 2, maxLocals := 1, code := prog_26_method_2_code, exceptionTable := #[], attributes := #[] }
def k9m1 : Method := { name := "hasNext", desc := "()Z", sig := { parameters := [], returnType := some .boolean }, accessFlags := 0, code := some k9c1 }
def k9c2 : Code := { maxStack := 5, maxLocals := 1, code := prog_26_method_3_code, exceptionTable := #[], attributes := #[] }
def k9m2 : Method := { name := "next", desc := "()Ljava/lang/String;", sig := { parameters := [], returnType := some (.object "java/lang/String") }, accessFlags := 0, code := some k9c2 }
/-- com/example/bouncer/bouncer/cli/Arguments -/
def k9 : Class := { plain "com/example/bouncer/bouncer/cli/Arguments" (some 0) with
  accessFlags := 48
  interfaces := #[]
  cf := some (fileOf pool9 11 #[] #[{ accessFlags := 0, nameIndex := 5, descriptorIndex := 154, attributes := #[] }, { accessFlags := 0, nameIndex := 41, descriptorIndex := 42, attributes := #[] }, { accessFlags := 0, nameIndex := 38, descriptorIndex := 53, attributes := #[] }] 48 2 #[] #[{ accessFlags := 18, nameIndex := 18, descriptorIndex := 19, attributes := #[] }, { accessFlags := 18, nameIndex := 22, descriptorIndex := 19, attributes := #[] }, { accessFlags := 18, nameIndex := 31, descriptorIndex := 26, attributes := #[] }, { accessFlags := 18, nameIndex := 34, descriptorIndex := 35, attributes := #[] }, { accessFlags := 18, nameIndex := 14, descriptorIndex := 15, attributes := #[] }, { accessFlags := 2, nameIndex := 38, descriptorIndex := 35, attributes := #[] }])
  fields := #[{ name := "command", type := (.object "java/lang/String"), accessFlags := 18, slot := 0, constantValue := 0 }, { name := "usage", type := (.object "java/lang/String"), accessFlags := 18, slot := 1, constantValue := 0 }, { name := "arguments", type := (.array (.object "java/lang/String")), accessFlags := 18, slot := 2, constantValue := 0 }, { name := "maxOperands", type := .int, accessFlags := 18, slot := 3, constantValue := 0 }, { name := "operands", type := (.object "java/util/List"), accessFlags := 18, slot := 4, constantValue := 0 }, { name := "next", type := .int, accessFlags := 2, slot := 5, constantValue := 0 }]
  methods := #[k9m0, k9m1, k9m2]
  instanceTypes := #[(.object "java/lang/String"), (.object "java/lang/String"), (.array (.object "java/lang/String")), .int, (.object "java/util/List"), .int]
  staticTypes := #[]
  resolved := Array.replicate 198 none
  statics := none }

def pool10 : Array CpInfo := pool [(8, .class_ 10), (1, u "java/lang/Iterable"), (24, .class_ 36), (0, u "java/lang/Object")] 25

/-- java/lang/Iterable -/
def k10 : Class := { plain "java/lang/Iterable" (some 0) with
  accessFlags := 1537
  interfaces := #[]
  cf := some (fileOf pool10 8 #[] #[] 1537 35 #[] #[])
  fields := #[]
  methods := #[]
  instanceTypes := #[]
  staticTypes := #[]
  resolved := Array.replicate 62 none
  statics := none }

def pool11 : Array CpInfo := pool [(10, .class_ 12), (1, u "java/util/Collection"), (47, .class_ 61), (0, u "java/lang/Object"), (0, .class_ 63), (0, u "java/lang/Iterable")] 51

/-- java/util/Collection -/
def k11 : Class := { plain "java/util/Collection" (some 0) with
  accessFlags := 1537
  interfaces := #[10]
  cf := some (fileOf pool11 10 #[] #[] 1537 60 #[62] #[])
  fields := #[]
  methods := #[]
  instanceTypes := #[]
  staticTypes := #[]
  resolved := Array.replicate 115 none
  statics := none }

def pool12 : Array CpInfo := pool [(1, .methodref 2 3), (0, .class_ 4), (0, .nameAndType 5 6), (0, u "java/lang/Object"), (0, u "<init>"), (0, u "()V"), (1, .class_ 10), (1, u "java/util/AbstractCollection"), (66, .class_ 78), (0, u "java/util/Collection")] 81

def k12c0 : Code := { maxStack := 1, maxLocals := 1, code := jdk_22_method_1_code, exceptionTable := #[], attributes := #[] }
def k12m0 : Method := { name := "<init>", desc := "()V", sig := { parameters := [], returnType := none }, accessFlags := 4, code := some k12c0 }
/-- java/util/AbstractCollection -/
def k12 : Class := { plain "java/util/AbstractCollection" (some 0) with
  accessFlags := 1057
  interfaces := #[11]
  cf := some (fileOf pool12 8 #[] #[{ accessFlags := 4, nameIndex := 5, descriptorIndex := 6, attributes := #[] }] 1057 2 #[77] #[])
  fields := #[]
  methods := #[k12m0]
  instanceTypes := #[]
  staticTypes := #[]
  resolved := Array.replicate 160 none
  statics := none }

def pool13 : Array CpInfo := pool [(8, .class_ 10), (1, u "java/util/SequencedCollection"), (15, .class_ 27), (0, u "java/lang/Object"), (0, .class_ 29), (0, u "java/util/Collection")] 27

/-- java/util/SequencedCollection -/
def k13 : Class := { plain "java/util/SequencedCollection" (some 0) with
  accessFlags := 1537
  interfaces := #[11]
  cf := some (fileOf pool13 8 #[] #[] 1537 26 #[28] #[])
  fields := #[]
  methods := #[]
  instanceTypes := #[]
  staticTypes := #[]
  resolved := Array.replicate 57 none
  statics := none }

def pool14 : Array CpInfo := pool [(8, .class_ 10), (1, u "java/util/List"), (92, .class_ 104), (0, u "java/lang/Object"), (15, .class_ 121), (0, u "java/util/SequencedCollection")] 129

/-- java/util/List -/
def k14 : Class := { plain "java/util/List" (some 0) with
  accessFlags := 1537
  interfaces := #[13]
  cf := some (fileOf pool14 8 #[] #[] 1537 103 #[120] #[])
  fields := #[]
  methods := #[]
  instanceTypes := #[]
  staticTypes := #[]
  resolved := Array.replicate 251 none
  statics := none }

def pool15 : Array CpInfo := pool [(1, .methodref 2 3), (0, .class_ 4), (0, .nameAndType 5 6), (0, u "java/util/AbstractCollection"), (0, u "<init>"), (0, u "()V"), (0, .fieldref 8 9), (0, .class_ 10), (0, .nameAndType 11 12), (0, u "java/util/AbstractList"), (0, u "modCount"), (0, u "I"), (64, .class_ 78), (0, u "java/util/AbstractList$Itr"), (3, .class_ 83), (0, u "java/util/AbstractList$ListItr"), (9, .class_ 94), (0, u "java/util/AbstractList$RandomAccessSubList"), (3, .class_ 99), (0, u "java/util/AbstractList$SubList"), (33, .class_ 134), (0, u "java/util/List"), (73, .class_ 209), (0, u "java/util/AbstractList$SubList$1"), (0, .class_ 211), (0, u "java/util/AbstractList$RandomAccessSpliterator")] 6

def k15c0 : Code := { maxStack := 2, maxLocals := 1, code := jdk_39_method_1_code, exceptionTable := #[], attributes := #[] }
def k15m0 : Method := { name := "<init>", desc := "()V", sig := { parameters := [], returnType := none }, accessFlags := 4, code := some k15c0 }
/-- java/util/AbstractList -/
def k15 : Class := { plain "java/util/AbstractList" (some 12) with
  accessFlags := 1057
  interfaces := #[14]
  cf := some (fileOf pool15 8 #[.nestMembers #[93, 98, 208, 210, 82, 77]] #[{ accessFlags := 4, nameIndex := 5, descriptorIndex := 6, attributes := #[] }] 1057 2 #[133] #[{ accessFlags := 132, nameIndex := 11, descriptorIndex := 12, attributes := #[] }])
  fields := #[{ name := "modCount", type := .int, accessFlags := 132, slot := 0, constantValue := 0 }]
  methods := #[k15m0]
  instanceTypes := #[.int]
  staticTypes := #[]
  resolved := Array.replicate 218 none
  statics := none }

def pool16 : Array CpInfo := pool [(1, .class_ 2), (0, u "java/util/RandomAccess"), (0, .class_ 4), (0, u "java/lang/Object")] 2

/-- java/util/RandomAccess -/
def k16 : Class := { plain "java/util/RandomAccess" (some 0) with
  accessFlags := 1537
  interfaces := #[]
  cf := some (fileOf pool16 1 #[] #[] 1537 3 #[] #[])
  fields := #[]
  methods := #[]
  instanceTypes := #[]
  staticTypes := #[]
  resolved := Array.replicate 7 none
  statics := none }

def pool17 : Array CpInfo := pool [(1, .class_ 2), (0, u "java/lang/Cloneable"), (0, .class_ 4), (0, u "java/lang/Object")] 2

/-- java/lang/Cloneable -/
def k17 : Class := { plain "java/lang/Cloneable" (some 0) with
  accessFlags := 1537
  interfaces := #[]
  cf := some (fileOf pool17 1 #[] #[] 1537 3 #[] #[])
  fields := #[]
  methods := #[]
  instanceTypes := #[]
  staticTypes := #[]
  resolved := Array.replicate 7 none
  statics := none }

def pool18 : Array CpInfo := pool [(1, .methodref 2 3), (0, .class_ 4), (0, .nameAndType 5 6), (0, u "java/util/AbstractList"), (0, u "<init>"), (0, u "()V"), (2, .fieldref 10 11), (0, .class_ 12), (0, .nameAndType 13 14), (0, u "java/util/ArrayList"), (0, u "elementData"), (0, u "[Ljava/lang/Object;"), (2, u "EMPTY_ELEMENTDATA"), (21, .fieldref 10 40), (0, .nameAndType 41 14), (0, u "DEFAULTCAPACITY_EMPTY_ELEMENTDATA"), (8, u "size"), (0, u "I"), (96, .class_ 149), (0, u "java/util/List"), (112, .class_ 263), (0, u "java/util/ArrayList$ListItr"), (3, .class_ 268), (0, u "java/util/ArrayList$Itr"), (7, .class_ 277), (0, u "java/util/ArrayList$SubList"), (12, .class_ 291), (0, u "java/util/ArrayList$ArrayListSpliterator"), (37, .class_ 330), (0, u "java/util/RandomAccess"), (0, .class_ 332), (0, u "java/lang/Cloneable"), (0, .class_ 334), (0, u "java/io/Serializable"), (0, u "serialVersionUID"), (0, u "J"), (3, u "DEFAULT_CAPACITY"), (159, .class_ 501), (0, u "java/util/ArrayList$SubList$2"), (0, .class_ 503), (0, u "java/util/ArrayList$SubList$1")] 5

def k18c0 : Code := { maxStack := 2, maxLocals := 1, code := jdk_38_method_2_code, exceptionTable := #[], attributes := #[] }
def k18m0 : Method := { name := "<init>", desc := "()V", sig := { parameters := [], returnType := none }, accessFlags := 1, code := some k18c0 }
/-- java/util/ArrayList -/
def k18 : Class := { plain "java/util/ArrayList" (some 15) with
  accessFlags := 33
  interfaces := #[14, 16, 17, 2]
  cf := some (fileOf pool18 10 #[.nestMembers #[290, 276, 500, 502, 262, 267]] #[{ accessFlags := 1, nameIndex := 5, descriptorIndex := 6, attributes := #[] }] 33 2 #[148, 329, 331, 333] #[{ accessFlags := 26, nameIndex := 335, descriptorIndex := 336, attributes := #[] }, { accessFlags := 26, nameIndex := 340, descriptorIndex := 51, attributes := #[] }, { accessFlags := 26, nameIndex := 17, descriptorIndex := 14, attributes := #[] }, { accessFlags := 26, nameIndex := 41, descriptorIndex := 14, attributes := #[] }, { accessFlags := 128, nameIndex := 13, descriptorIndex := 14, attributes := #[] }, { accessFlags := 2, nameIndex := 50, descriptorIndex := 51, attributes := #[] }])
  fields := #[{ name := "serialVersionUID", type := .long, accessFlags := 26, slot := 0, constantValue := 0 }, { name := "DEFAULT_CAPACITY", type := .int, accessFlags := 26, slot := 1, constantValue := 0 }, { name := "EMPTY_ELEMENTDATA", type := (.array (.object "java/lang/Object")), accessFlags := 26, slot := 2, constantValue := 0 }, { name := "DEFAULTCAPACITY_EMPTY_ELEMENTDATA", type := (.array (.object "java/lang/Object")), accessFlags := 26, slot := 3, constantValue := 0 }, { name := "elementData", type := (.array (.object "java/lang/Object")), accessFlags := 128, slot := 1, constantValue := 0 }, { name := "size", type := .int, accessFlags := 2, slot := 2, constantValue := 0 }]
  methods := #[k18m0]
  instanceTypes := #[.int, (.array (.object "java/lang/Object")), .int]
  staticTypes := #[.long, .int, (.array (.object "java/lang/Object")), (.array (.object "java/lang/Object"))]
  resolved := Array.replicate 509 none
  statics := some 1 }

def pool19 : Array CpInfo := pool [(2, .class_ 4), (1, u "java/lang/Object"), (0, u "<init>"), (0, u "()V"), (17, .class_ 26), (1, u "jdk/internal/util/Preconditions"), (28, .class_ 56), (0, u "jdk/internal/util/Preconditions$4"), (57, .class_ 115), (0, u "jdk/internal/util/Preconditions$1"), (7, u "SIOOBE_FORMATTER"), (0, u "Ljava/util/function/BiFunction;"), (0, .class_ 126), (0, u "jdk/internal/util/Preconditions$2"), (3, u "AIOOBE_FORMATTER"), (0, .class_ 132), (0, u "jdk/internal/util/Preconditions$3"), (3, u "IOOBE_FORMATTER")] 57

def k19m0 : Method := { name := "<init>", desc := "()V", sig := { parameters := [], returnType := none }, accessFlags := 1, code := none }
/-- jdk/internal/util/Preconditions -/
def k19 : Class := { plain "jdk/internal/util/Preconditions" (some 0) with
  accessFlags := 33
  interfaces := #[]
  cf := some (fileOf pool19 24 #[.nestMembers #[55, 131, 125, 114]] #[{ accessFlags := 1, nameIndex := 5, descriptorIndex := 6, attributes := #[] }] 33 2 #[] #[{ accessFlags := 25, nameIndex := 123, descriptorIndex := 124, attributes := #[] }, { accessFlags := 25, nameIndex := 130, descriptorIndex := 124, attributes := #[] }, { accessFlags := 25, nameIndex := 136, descriptorIndex := 124, attributes := #[] }])
  fields := #[{ name := "SIOOBE_FORMATTER", type := (.object "java/util/function/BiFunction"), accessFlags := 25, slot := 0, constantValue := 0 }, { name := "AIOOBE_FORMATTER", type := (.object "java/util/function/BiFunction"), accessFlags := 25, slot := 1, constantValue := 0 }, { name := "IOOBE_FORMATTER", type := (.object "java/util/function/BiFunction"), accessFlags := 25, slot := 2, constantValue := 0 }]
  methods := #[k19m0]
  instanceTypes := #[]
  staticTypes := #[(.object "java/util/function/BiFunction"), (.object "java/util/function/BiFunction"), (.object "java/util/function/BiFunction")]
  resolved := Array.replicate 194 none
  statics := some 2 }

def pool20 : Array CpInfo := pool [(9, u "<init>"), (6, .class_ 18), (1, u "java/lang/Object"), (0, u "()V"), (1, .class_ 23), (1, u "jdk/internal/util/ArraysSupport"), (0, u "LOG2_ARRAY_LONG_INDEX_SCALE"), (0, u "I"), (2, u "U"), (0, u "Ljdk/internal/misc/Unsafe;"), (8, u "BIG_ENDIAN"), (0, u "Z"), (8, u "LOG2_BYTE_BIT_SIZE"), (4, u "LOG2_ARRAY_INT_INDEX_SCALE"), (54, u "JLA"), (0, u "Ljdk/internal/access/JavaLangAccess;"), (11, u "LOG2_ARRAY_BOOLEAN_INDEX_SCALE"), (9, u "LOG2_ARRAY_BYTE_INDEX_SCALE"), (5, u "LOG2_ARRAY_CHAR_INDEX_SCALE"), (5, u "LOG2_ARRAY_SHORT_INDEX_SCALE"), (18, u "LOG2_ARRAY_FLOAT_INDEX_SCALE"), (24, u "LOG2_ARRAY_DOUBLE_INDEX_SCALE"), (89, u "T_BOOLEAN"), (2, u "T_CHAR"), (1, u "T_FLOAT"), (1, u "T_DOUBLE"), (1, u "T_BYTE"), (1, u "T_SHORT"), (1, u "T_INT"), (1, u "T_LONG"), (1, u "SOFT_MAX_ARRAY_LENGTH")] 83

def k20m0 : Method := { name := "<init>", desc := "()V", sig := { parameters := [], returnType := none }, accessFlags := 2, code := none }
/-- jdk/internal/util/ArraysSupport -/
def k20 : Class := { plain "jdk/internal/util/ArraysSupport" (some 0) with
  accessFlags := 33
  interfaces := #[]
  cf := some (fileOf pool20 21 #[] #[{ accessFlags := 2, nameIndex := 9, descriptorIndex := 19, attributes := #[] }] 33 16 #[] #[{ accessFlags := 24, nameIndex := 28, descriptorIndex := 29, attributes := #[] }, { accessFlags := 26, nameIndex := 38, descriptorIndex := 39, attributes := #[] }, { accessFlags := 25, nameIndex := 121, descriptorIndex := 25, attributes := #[] }, { accessFlags := 25, nameIndex := 131, descriptorIndex := 25, attributes := #[] }, { accessFlags := 25, nameIndex := 137, descriptorIndex := 25, attributes := #[] }, { accessFlags := 25, nameIndex := 143, descriptorIndex := 25, attributes := #[] }, { accessFlags := 25, nameIndex := 53, descriptorIndex := 25, attributes := #[] }, { accessFlags := 25, nameIndex := 24, descriptorIndex := 25, attributes := #[] }, { accessFlags := 25, nameIndex := 162, descriptorIndex := 25, attributes := #[] }, { accessFlags := 25, nameIndex := 187, descriptorIndex := 25, attributes := #[] }, { accessFlags := 26, nameIndex := 48, descriptorIndex := 25, attributes := #[] }, { accessFlags := 25, nameIndex := 277, descriptorIndex := 25, attributes := #[] }, { accessFlags := 25, nameIndex := 280, descriptorIndex := 25, attributes := #[] }, { accessFlags := 25, nameIndex := 282, descriptorIndex := 25, attributes := #[] }, { accessFlags := 25, nameIndex := 284, descriptorIndex := 25, attributes := #[] }, { accessFlags := 25, nameIndex := 286, descriptorIndex := 25, attributes := #[] }, { accessFlags := 25, nameIndex := 288, descriptorIndex := 25, attributes := #[] }, { accessFlags := 25, nameIndex := 290, descriptorIndex := 25, attributes := #[] }, { accessFlags := 25, nameIndex := 292, descriptorIndex := 25, attributes := #[] }, { accessFlags := 26, nameIndex := 108, descriptorIndex := 109, attributes := #[] }, { accessFlags := 25, nameIndex := 294, descriptorIndex := 25, attributes := #[] }])
  fields := #[{ name := "U", type := (.object "jdk/internal/misc/Unsafe"), accessFlags := 24, slot := 0, constantValue := 0 }, { name := "BIG_ENDIAN", type := .boolean, accessFlags := 26, slot := 1, constantValue := 0 }, { name := "LOG2_ARRAY_BOOLEAN_INDEX_SCALE", type := .int, accessFlags := 25, slot := 2, constantValue := 0 }, { name := "LOG2_ARRAY_BYTE_INDEX_SCALE", type := .int, accessFlags := 25, slot := 3, constantValue := 0 }, { name := "LOG2_ARRAY_CHAR_INDEX_SCALE", type := .int, accessFlags := 25, slot := 4, constantValue := 0 }, { name := "LOG2_ARRAY_SHORT_INDEX_SCALE", type := .int, accessFlags := 25, slot := 5, constantValue := 0 }, { name := "LOG2_ARRAY_INT_INDEX_SCALE", type := .int, accessFlags := 25, slot := 6, constantValue := 0 }, { name := "LOG2_ARRAY_LONG_INDEX_SCALE", type := .int, accessFlags := 25, slot := 7, constantValue := 0 }, { name := "LOG2_ARRAY_FLOAT_INDEX_SCALE", type := .int, accessFlags := 25, slot := 8, constantValue := 0 }, { name := "LOG2_ARRAY_DOUBLE_INDEX_SCALE", type := .int, accessFlags := 25, slot := 9, constantValue := 0 }, { name := "LOG2_BYTE_BIT_SIZE", type := .int, accessFlags := 26, slot := 10, constantValue := 0 }, { name := "T_BOOLEAN", type := .int, accessFlags := 25, slot := 11, constantValue := 0 }, { name := "T_CHAR", type := .int, accessFlags := 25, slot := 12, constantValue := 0 }, { name := "T_FLOAT", type := .int, accessFlags := 25, slot := 13, constantValue := 0 }, { name := "T_DOUBLE", type := .int, accessFlags := 25, slot := 14, constantValue := 0 }, { name := "T_BYTE", type := .int, accessFlags := 25, slot := 15, constantValue := 0 }, { name := "T_SHORT", type := .int, accessFlags := 25, slot := 16, constantValue := 0 }, { name := "T_INT", type := .int, accessFlags := 25, slot := 17, constantValue := 0 }, { name := "T_LONG", type := .int, accessFlags := 25, slot := 18, constantValue := 0 }, { name := "JLA", type := (.object "jdk/internal/access/JavaLangAccess"), accessFlags := 26, slot := 19, constantValue := 0 }, { name := "SOFT_MAX_ARRAY_LENGTH", type := .int, accessFlags := 25, slot := 20, constantValue := 0 }]
  methods := #[k20m0]
  instanceTypes := #[]
  staticTypes := #[(.object "jdk/internal/misc/Unsafe"), .boolean, .int, .int, .int, .int, .int, .int, .int, .int, .int, .int, .int, .int, .int, .int, .int, .int, .int, (.object "jdk/internal/access/JavaLangAccess"), .int]
  resolved := Array.replicate 378 none
  statics := none }

/-- the primitive byte -/
def k21 : Class := { plain "byte" none with kind := .primitive 'B', accessFlags := 0x411 }
/-- [B -/
def k22 : Class := { plain "[B" (some 0) with kind := .array 21 .byte, interfaces := #[17, 2], accessFlags := 1041 }

/-- the primitive int -/
def k23 : Class := { plain "int" none with kind := .primitive 'I', accessFlags := 0x411 }
/-- [I -/
def k24 : Class := { plain "[I" (some 0) with kind := .array 23 .int, interfaces := #[17, 2], accessFlags := 1041 }

/-- [Ljava/lang/Object; -/
def k25 : Class := { plain "[Ljava/lang/Object;" (some 0) with kind := .array 0 (.object "java/lang/Object"), interfaces := #[17, 2], accessFlags := 1041 }

/-- [Ljava/lang/String; -/
def k26 : Class := { plain "[Ljava/lang/String;" (some 0) with kind := .array 7 (.object "java/lang/String"), interfaces := #[17, 2], accessFlags := 1041 }

def heap : Heap := #[{ cls := 7, slots := #[.long 0, .int 1, .null, .int 0, .null, .int 0, .int 0], vm := .statics 7 },
  { cls := 18, slots := #[.long 0, .int 0, .ref 3, .ref 4], vm := .statics 18 },
  { cls := 19, slots := #[.null, .null, .null], vm := .statics 19 },
  { cls := 25, slots := #[], vm := .none },
  { cls := 25, slots := #[], vm := .none }]
def classes : Array Class := #[k0, k1, k2, k3, k4, k5, k6, k7, k8, k9, k10, k11, k12, k13, k14, k15, k16, k17, k18, k19, k20, k21, k22, k23, k24, k25, k26]
def interned : List (Array UInt16 × Addr) := []
def slotsUsed : Nat := 14
def theMethod : MethodId := ⟨1, 2⟩
def args0 : Array Value := #[.int 5, .int 7, .int 9, .int 1]
def aboutOver (below : List Frame) : State where
  vm := { classes := classes, interned := interned.toArray }
  heap := heap
  slotsUsed := slotsUsed
  threads := #[{ frames := .invoking theMethod args0 :: below }]
def below0 : List Frame := [.native { method := ⟨0, 0⟩, args := #[] }]
def about1 : State := aboutOver below0
def p0 : Program := .bare "" "" ""
def e0 : Env := launch0.env 0 0 0
theorem w_frames : about1.frames = Frame.invoking theMethod args0 :: below0 := rfl
set_option maxRecDepth 65536 in
theorem w_args : argsFit about1.vm theMethod args0 = true := by decide +kernel
set_option maxRecDepth 65536 in
theorem w_heap : heapFits about1 = true := by decide +kernel
set_option maxRecDepth 65536 in
theorem w_runnable : about1.curStatus? = some .runnable := by decide +kernel
set_option maxRecDepth 65536 in
theorem w_alone : about1.alone = true := by decide +kernel
set_option maxRecDepth 65536 in
theorem w_named : about1.methodNamed? x = some theMethod := by decide +kernel
set_option maxRecDepth 65536 in
theorem w_hears : about1.hears theMethod below0 = true := by decide +kernel
set_option maxRecDepth 65536 in
theorem w_ripe : about1.ripe theMethod args0 below0 = true := by decide +kernel
theorem w_running : about1.status = .running := rfl
set_option maxRecDepth 65536 in
theorem w_room : about1.hasRoom e0.platform room_1 = true :=
  launch0.hasRoom_least _ room_1 (by decide +kernel) (by decide +kernel) (by decide +kernel) (by decide +kernel) (by decide +kernel) (by decide +kernel)
theorem allAtoms_all (ts : List Jvm.Cond) (a : Array Jvm.Value) (st : Jvm.State) : (allAtoms ts).before a st = ts.all (fun c => c.before a st) := by
  induction ts with
  | nil => rfl
  | cons c t ih =>
    show (Jvm.Cond.and c (allAtoms t)).before a st = _
    rw [Jvm.Cond.before_and, ih, List.all_cons]
def words1 : List Jvm.Cond := Jvm.Cond.code x code maxLocals ret :: tables_1
/-- a 'code' word, met by the world's own term for the bytes: nothing is compared byte by byte -/
theorem code_word {y : MethodName} {bytes : ByteArray} {mx : Nat} {rt : Option FieldType} {a : Array Value} {s : State} {m : MethodId} {meth : Method} {c : Code} (h1 : s.methodNamed? y = some m) (h2 : s.vm.method? m = some meth) (h3 : meth.code = some c) (h4 : c.code = bytes)
    (h5 : (c.maxLocals == mx && c.exceptionTable.isEmpty && decide (c.maxStack ≤ mostOperands) && decide (meth.sig.returnType = rt) && !meth.locks && decide (parseMethodDescriptor y.desc = some meth.sig)) = true) : (Jvm.Cond.code y bytes mx rt).before a s = true := by
  simp only [Bool.and_eq_true, beq_iff_eq, Bool.not_eq_true', decide_eq_true_eq] at h5
  obtain ⟨⟨⟨⟨⟨g1, g2⟩, g3⟩, g4⟩, g5⟩, g6⟩ := h5
  simp [Cond.before, Cond.holds, Cond.value, h1, h2, h3, h4, g1, g2, g3, g4, g5, g6]
def isCode : Jvm.Cond → Bool
  | .code _ _ _ _ => true
  | _ => false
theorem all_split {L : List Jvm.Cond} {P : Jvm.Cond → Bool} (h1 : L.all (fun c => isCode c || P c) = true) (h2 : ∀ c ∈ L.filter isCode, P c = true) : L.all P = true := by
  refine List.all_eq_true.mpr fun c hc => ?_
  have h := List.all_eq_true.mp h1 c hc
  rcases Bool.eq_false_or_eq_true (isCode c) with hi | hi
  · exact h2 c (List.mem_filter.mpr ⟨hc, hi⟩)
  · simpa [hi] using h
set_option maxRecDepth 65536 in
theorem w_c0 : (Jvm.Cond.code x code maxLocals ret).before args0 about1 = true := code_word (m := ⟨1, 2⟩) (meth := k1m2) (c := k1c2) (by decide +kernel) rfl rfl rfl (by decide +kernel)
set_option maxRecDepth 65536 in
theorem w_c1 : (Jvm.Cond.code ({ cls := "com/example/bouncer/bouncer/cli/ArgumentsHasNextPinLaw", name := "make", desc := "(II)[Ljava/lang/String;" } : Jvm.MethodName) method_2_code (5 : Nat) (Option.some (Jvm.ClassFile.FieldType.array (Jvm.ClassFile.FieldType.object "java/lang/String")))).before args0 about1 = true := code_word (m := ⟨1, 1⟩) (meth := k1m1) (c := k1c1) (by decide +kernel) rfl rfl rfl (by decide +kernel)
set_option maxRecDepth 65536 in
theorem w_c2 : (Jvm.Cond.code ({ cls := "java/lang/String", name := "valueOf", desc := "(C)Ljava/lang/String;" } : Jvm.MethodName) jdk_42_method_139_code (1 : Nat) (Option.some (Jvm.ClassFile.FieldType.object "java/lang/String"))).before args0 about1 = true := code_word (m := ⟨7, 1⟩) (meth := k7m1) (c := k7c1) (by decide +kernel) rfl rfl rfl (by decide +kernel)
set_option maxRecDepth 65536 in
theorem w_c3 : (Jvm.Cond.code ({ cls := "java/lang/StringLatin1", name := "canEncode", desc := "(C)Z" } : Jvm.MethodName) jdk_43_method_3_code (1 : Nat) (Option.some Jvm.ClassFile.FieldType.boolean)).before args0 about1 = true := code_word (m := ⟨8, 1⟩) (meth := k8m1) (c := k8c1) (by decide +kernel) rfl rfl rfl (by decide +kernel)
set_option maxRecDepth 65536 in
theorem w_c4 : (Jvm.Cond.code ({ cls := "java/lang/StringLatin1", name := "toBytes", desc := "(C)[B" } : Jvm.MethodName) jdk_43_method_46_code (1 : Nat) (Option.some (Jvm.ClassFile.FieldType.array Jvm.ClassFile.FieldType.byte))).before args0 about1 = true := code_word (m := ⟨8, 2⟩) (meth := k8m2) (c := k8c2) (by decide +kernel) rfl rfl rfl (by decide +kernel)
set_option maxRecDepth 65536 in
theorem w_c5 : (Jvm.Cond.code ({ cls := "java/lang/String", name := "<init>", desc := "([BB)V" } : Jvm.MethodName) jdk_42_method_151_code (3 : Nat) (Option.none : Option Jvm.ClassFile.FieldType)).before args0 about1 = true := code_word (m := ⟨7, 2⟩) (meth := k7m2) (c := k7c2) (by decide +kernel) rfl rfl rfl (by decide +kernel)
set_option maxRecDepth 65536 in
theorem w_c6 : (Jvm.Cond.code ({ cls := "java/lang/Object", name := "<init>", desc := "()V" } : Jvm.MethodName) object_method_1_code (1 : Nat) (Option.none : Option Jvm.ClassFile.FieldType)).before args0 about1 = true := code_word (m := ⟨0, 0⟩) (meth := k0m0) (c := k0c0) (by decide +kernel) rfl rfl rfl (by decide +kernel)
set_option maxRecDepth 65536 in
theorem w_c7 : (Jvm.Cond.code ({ cls := "com/example/bouncer/bouncer/cli/Arguments", name := "<init>", desc := "(Ljava/lang/String;Ljava/lang/String;[Ljava/lang/String;I)V" } : Jvm.MethodName) prog_26_method_1_code (5 : Nat) (Option.none : Option Jvm.ClassFile.FieldType)).before args0 about1 = true := code_word (m := ⟨9, 0⟩) (meth := k9m0) (c := k9c0) (by decide +kernel) rfl rfl rfl (by decide +kernel)
set_option maxRecDepth 65536 in
theorem w_c8 : (Jvm.Cond.code ({ cls := "java/util/ArrayList", name := "<init>", desc := "()V" } : Jvm.MethodName) jdk_38_method_2_code (1 : Nat) (Option.none : Option Jvm.ClassFile.FieldType)).before args0 about1 = true := code_word (m := ⟨18, 0⟩) (meth := k18m0) (c := k18c0) (by decide +kernel) rfl rfl rfl (by decide +kernel)
set_option maxRecDepth 65536 in
theorem w_c9 : (Jvm.Cond.code ({ cls := "java/util/AbstractList", name := "<init>", desc := "()V" } : Jvm.MethodName) jdk_39_method_1_code (1 : Nat) (Option.none : Option Jvm.ClassFile.FieldType)).before args0 about1 = true := code_word (m := ⟨15, 0⟩) (meth := k15m0) (c := k15c0) (by decide +kernel) rfl rfl rfl (by decide +kernel)
set_option maxRecDepth 65536 in
theorem w_c10 : (Jvm.Cond.code ({ cls := "java/util/AbstractCollection", name := "<init>", desc := "()V" } : Jvm.MethodName) jdk_22_method_1_code (1 : Nat) (Option.none : Option Jvm.ClassFile.FieldType)).before args0 about1 = true := code_word (m := ⟨12, 0⟩) (meth := k12m0) (c := k12c0) (by decide +kernel) rfl rfl rfl (by decide +kernel)
set_option maxRecDepth 65536 in
theorem w_c11 : (Jvm.Cond.code ({ cls := "com/example/bouncer/bouncer/cli/Arguments", name := "hasNext", desc := "()Z" } : Jvm.MethodName) prog_26_method_2_code (1 : Nat) (Option.some Jvm.ClassFile.FieldType.boolean)).before args0 about1 = true := code_word (m := ⟨9, 1⟩) (meth := k9m1) (c := k9c1) (by decide +kernel) rfl rfl rfl (by decide +kernel)
set_option maxRecDepth 65536 in
theorem w_c12 : (Jvm.Cond.code ({ cls := "com/example/bouncer/bouncer/cli/Arguments", name := "next", desc := "()Ljava/lang/String;" } : Jvm.MethodName) prog_26_method_3_code (1 : Nat) (Option.some (Jvm.ClassFile.FieldType.object "java/lang/String"))).before args0 about1 = true := code_word (m := ⟨9, 2⟩) (meth := k9m2) (c := k9c2) (by decide +kernel) rfl rfl rfl (by decide +kernel)
def codes1 : List Jvm.Cond := [Jvm.Cond.code x code maxLocals ret, Jvm.Cond.code ({ cls := "com/example/bouncer/bouncer/cli/ArgumentsHasNextPinLaw", name := "make", desc := "(II)[Ljava/lang/String;" } : Jvm.MethodName) method_2_code (5 : Nat) (Option.some (Jvm.ClassFile.FieldType.array (Jvm.ClassFile.FieldType.object "java/lang/String"))), Jvm.Cond.code ({ cls := "java/lang/String", name := "valueOf", desc := "(C)Ljava/lang/String;" } : Jvm.MethodName) jdk_42_method_139_code (1 : Nat) (Option.some (Jvm.ClassFile.FieldType.object "java/lang/String")), Jvm.Cond.code ({ cls := "java/lang/StringLatin1", name := "canEncode", desc := "(C)Z" } : Jvm.MethodName) jdk_43_method_3_code (1 : Nat) (Option.some Jvm.ClassFile.FieldType.boolean), Jvm.Cond.code ({ cls := "java/lang/StringLatin1", name := "toBytes", desc := "(C)[B" } : Jvm.MethodName) jdk_43_method_46_code (1 : Nat) (Option.some (Jvm.ClassFile.FieldType.array Jvm.ClassFile.FieldType.byte)), Jvm.Cond.code ({ cls := "java/lang/String", name := "<init>", desc := "([BB)V" } : Jvm.MethodName) jdk_42_method_151_code (3 : Nat) (Option.none : Option Jvm.ClassFile.FieldType), Jvm.Cond.code ({ cls := "java/lang/Object", name := "<init>", desc := "()V" } : Jvm.MethodName) object_method_1_code (1 : Nat) (Option.none : Option Jvm.ClassFile.FieldType), Jvm.Cond.code ({ cls := "com/example/bouncer/bouncer/cli/Arguments", name := "<init>", desc := "(Ljava/lang/String;Ljava/lang/String;[Ljava/lang/String;I)V" } : Jvm.MethodName) prog_26_method_1_code (5 : Nat) (Option.none : Option Jvm.ClassFile.FieldType), Jvm.Cond.code ({ cls := "java/util/ArrayList", name := "<init>", desc := "()V" } : Jvm.MethodName) jdk_38_method_2_code (1 : Nat) (Option.none : Option Jvm.ClassFile.FieldType), Jvm.Cond.code ({ cls := "java/util/AbstractList", name := "<init>", desc := "()V" } : Jvm.MethodName) jdk_39_method_1_code (1 : Nat) (Option.none : Option Jvm.ClassFile.FieldType), Jvm.Cond.code ({ cls := "java/util/AbstractCollection", name := "<init>", desc := "()V" } : Jvm.MethodName) jdk_22_method_1_code (1 : Nat) (Option.none : Option Jvm.ClassFile.FieldType), Jvm.Cond.code ({ cls := "com/example/bouncer/bouncer/cli/Arguments", name := "hasNext", desc := "()Z" } : Jvm.MethodName) prog_26_method_2_code (1 : Nat) (Option.some Jvm.ClassFile.FieldType.boolean), Jvm.Cond.code ({ cls := "com/example/bouncer/bouncer/cli/Arguments", name := "next", desc := "()Ljava/lang/String;" } : Jvm.MethodName) prog_26_method_3_code (1 : Nat) (Option.some (Jvm.ClassFile.FieldType.object "java/lang/String"))]
set_option maxRecDepth 65536 in
theorem codes_eq : words1.filter isCode = codes1 := rfl
theorem w_codes : ∀ c ∈ words1.filter isCode, c.before args0 about1 = true := by
  rw [codes_eq]
  intro c hc
  simp only [codes1, List.mem_cons, List.not_mem_nil, or_false] at hc
  rcases hc with rfl | rfl | rfl | rfl | rfl | rfl | rfl | rfl | rfl | rfl | rfl | rfl | rfl
  · exact w_c0
  · exact w_c1
  · exact w_c2
  · exact w_c3
  · exact w_c4
  · exact w_c5
  · exact w_c6
  · exact w_c7
  · exact w_c8
  · exact w_c9
  · exact w_c10
  · exact w_c11
  · exact w_c12
set_option maxRecDepth 65536 in
theorem w_t1 : (words1.take 24).all (fun c => isCode c || c.before args0 about1) = true := by decide +kernel
set_option maxRecDepth 65536 in
theorem w_t2 : ((words1.drop 24).take 24).all (fun c => isCode c || c.before args0 about1) = true := by decide +kernel
set_option maxRecDepth 65536 in
theorem w_t3 : (((words1.drop 24).drop 24).take 24).all (fun c => isCode c || c.before args0 about1) = true := by decide +kernel
set_option maxRecDepth 65536 in
theorem w_t4 : ((((words1.drop 24).drop 24).drop 24).take 24).all (fun c => isCode c || c.before args0 about1) = true := by decide +kernel
set_option maxRecDepth 65536 in
theorem w_t5 : ((((words1.drop 24).drop 24).drop 24).drop 24).all (fun c => isCode c || c.before args0 about1) = true := by decide +kernel
theorem w_tables : (allAtoms (Jvm.Cond.code x code maxLocals ret :: tables_1)).before args0 about1 = true := by
  rw [allAtoms_all]
  show words1.all (fun c => c.before args0 about1) = true
  refine all_split ?_ w_codes
  rw [← List.take_append_drop 24 words1, List.all_append, w_t1, ← List.take_append_drop 24 (words1.drop 24), List.all_append, w_t2, ← List.take_append_drop 24 ((words1.drop 24).drop 24), List.all_append, w_t3, ← List.take_append_drop 24 (((words1.drop 24).drop 24).drop 24), List.all_append, w_t4, w_t5]
  rfl
set_option maxRecDepth 65536 in
theorem w_rest : rest_1_c.before args0 about1 = true := by decide +kernel
set_option maxRecDepth 65536 in
theorem w_case : (Jvm.Cond.and given_1 narrow_1).before args0 about1 = true := by decide +kernel
theorem w_applies : (headSpec (Jvm.Cond.code x code maxLocals ret :: tables_1) room_1).applies x e0.platform about1 = true :=
  (Spec.applies_iff w_frames).mpr ⟨w_running, w_runnable, w_alone, w_named, w_hears, w_ripe, w_room, w_tables⟩
theorem atStart : AtStart classFile x code maxLocals ret World_1 tables_1 room_1 Calls_1 rest_1 Pre_1 launch0 p0 e0 about1 theMethod args0 below0 :=
  ⟨lists_1, trivial, launch0.admits_env _ _ _, launch0.least_env, fairChoices_fair.cas, fairChoices_fair.clock, w_frames, w_args, w_heap, w_applies, trivial, w_rest, w_case⟩
end start1
theorem witness_1 : WitnessClaimed_1 := ⟨start1.p0, start1.e0, start1.about1, start1.theMethod, start1.args0, start1.below0, start1.atStart⟩
end Jvm.Pilot.@@N@@
